/- Part 2 of the proof: Wa, Sx8, Sx9, Pa, Wb, Wc, Wd, We, Wf, Wg, Wh, Wi, Wj, Wn0, Wn1, Wn2. By program out of the working texts. Conditions: as each theorem says. -/
import Derived.Test.YtgkjnkhoopcjgaaDoorK1
import Derived.Test.YtgkjnkhoopcjgaaDoorProg
import Derived.KernelRfl
import Derived.Laws.IdiomStrings
/- The three reads of a number in a byte order: each returns the number that the bytes at the slice's front are; memory stays. Conditions: the slice has as many bytes. -/
namespace Go.Proofs.YtgkjnkhoopcjgaaDoor
open Go.Sx
set_option maxRecDepth 100000

theorem mixed : Tryd.prog.follows .mixedOrders = true := by kernel_rfl

def ordN (big : Bool) : Int := if big then 1 else 0

theorem u16_false {b o n c : Nat} {l : List Value} {e : TypeId} {fr : Nat × Nat} {x0 x1 : UInt8} {w : World} (hb : w.heap[b]? = some (.cells l.toArray e fr)) (hn : 2 ≤ n) (h0 : l[o]? = some (u8v x0)) (h1 : l[o + 1]? = some (u8v x1)) :
  Calls Tryd.prog 34 #[.int .u8 0, .slice (some ⟨b, o, none⟩) n c] w fun e w' => e = .returned (.int .u16 (numB false [x0, x1] : Nat)) ∧ Same w w' := by
 have b0 := x0.toNat_lt
 have b1 := x1.toNat_lt
 unfold u8v at h0 h1
 refine begins E0 Tryd.func34 rfl Tryd.ntmps34 rfl [(0, _), (1, _)] ⟨rfl, rfl, trivial⟩ [(b, .cells l.toArray e fr)] ⟨hb, trivial⟩ (by simp) ?_
 refine scR ?_
 refine sqA rfl rfl ?_
 refine sqKR [0, 1] rfl ?_
 refine sqM rfl rfl ?_
 refine sq_q (q_index (j := o + 1) rfl rfl Tryd.runUnderlying22 Tryd.sizeOf5 ⟨by omega, by omega⟩ rfl) rfl ?_
 refine sq_q (q_load1 rfl Tryd.isAgg5 (i := 0) rfl h1) rfl ?_
 refine sqK [0, 1] rfl ?_
 refine sc_seq ?_
 refine scR ?_
 refine sqM rfl rfl ?_
 refine sq_q (q_decF (q_eql rfl rfl) (by decide)) rfl ?_
 refine sqK [1, 9] rfl ?_
 refine sc_cond_f rfl ?_
 refine scS ?_
 refine scK [1] rfl ?_
 refine sc_seq ?_
 refine sc_draw [0, 1, 2, 3, 4, 5, 6, 7, 8, 9, 10] [] _ mixed (by kernel_rfl) (by kernel_rfl) (List.Subset.refl _) ?_
 refine drM rfl rfl rfl ?_
 refine dr_q rfl rfl (q_index (j := o + 0) rfl rfl Tryd.runUnderlying22 Tryd.sizeOf5 ⟨by omega, by omega⟩ rfl) ?_
 refine dr_q rfl rfl (q_load1 rfl Tryd.isAgg5 (i := 0) rfl h0) ?_
 refine dr_q rfl rfl (q_conv rfl Tryd.runUnderlying5 Tryd.runUnderlying62 (w_u16 (by omega) (by omega))) ?_
 refine drM rfl rfl rfl ?_
 refine dr_q rfl rfl (q_index (j := o + 1) rfl rfl Tryd.runUnderlying22 Tryd.sizeOf5 ⟨by omega, by omega⟩ rfl) ?_
 refine dr_q rfl rfl (q_load1 rfl Tryd.isAgg5 (i := 0) rfl h1) ?_
 refine dr_q rfl rfl (q_conv rfl Tryd.runUnderlying5 Tryd.runUnderlying62 (w_u16 (by omega) (by omega))) ?_
 refine dr_q rfl rfl (q_shl rfl rfl (by decide) (s16_8 b1)) ?_
 refine dr_q rfl rfl (q_or rfl rfl (o16l b1 b0)) ?_
 refine drA rfl rfl rfl ?_
 refine dr_nil ?_
 refine se_seq ?_
 refine scK [4] rfl ?_
 refine sc_ret ?_
 exact se_end (res1 Tryd.results34 rfl) (fun w' hw => ⟨congrArg (fun z : Nat => Ending.returned (.int .u16 (z : Int))) (by simp [numB, beN]), hw.same_of⟩)

theorem u16_true {b o n c : Nat} {l : List Value} {e : TypeId} {fr : Nat × Nat} {x0 x1 : UInt8} {w : World} (hb : w.heap[b]? = some (.cells l.toArray e fr)) (hn : 2 ≤ n) (h0 : l[o]? = some (u8v x0)) (h1 : l[o + 1]? = some (u8v x1)) :
  Calls Tryd.prog 34 #[.int .u8 1, .slice (some ⟨b, o, none⟩) n c] w fun e w' => e = .returned (.int .u16 (numB true [x0, x1] : Nat)) ∧ Same w w' := by
 have b0 := x0.toNat_lt
 have b1 := x1.toNat_lt
 unfold u8v at h0 h1
 refine begins E0 Tryd.func34 rfl Tryd.ntmps34 rfl [(0, _), (1, _)] ⟨rfl, rfl, trivial⟩ [(b, .cells l.toArray e fr)] ⟨hb, trivial⟩ (by simp) ?_
 refine scR ?_
 refine sqA rfl rfl ?_
 refine sqKR [0, 1] rfl ?_
 refine sqM rfl rfl ?_
 refine sq_q (q_index (j := o + 1) rfl rfl Tryd.runUnderlying22 Tryd.sizeOf5 ⟨by omega, by omega⟩ rfl) rfl ?_
 refine sq_q (q_load1 rfl Tryd.isAgg5 (i := 0) rfl h1) rfl ?_
 refine sqK [0, 1] rfl ?_
 refine sc_seq ?_
 refine scR ?_
 refine sqM rfl rfl ?_
 refine sq_q (q_decT (q_eql rfl rfl) (by decide)) rfl ?_
 refine sqK [1, 9] rfl ?_
 refine sc_cond_t rfl ?_
 refine sc_seq ?_
 refine sc_draw [0, 1, 2, 3, 4, 5, 6, 7, 8, 9, 10] [] _ mixed (by kernel_rfl) (by kernel_rfl) (List.Subset.refl _) ?_
 refine drM rfl rfl rfl ?_
 refine dr_q rfl rfl (q_index (j := o + 1) rfl rfl Tryd.runUnderlying22 Tryd.sizeOf5 ⟨by omega, by omega⟩ rfl) ?_
 refine dr_q rfl rfl (q_load1 rfl Tryd.isAgg5 (i := 0) rfl h1) ?_
 refine dr_q rfl rfl (q_conv rfl Tryd.runUnderlying5 Tryd.runUnderlying62 (w_u16 (by omega) (by omega))) ?_
 refine drM rfl rfl rfl ?_
 refine dr_q rfl rfl (q_index (j := o + 0) rfl rfl Tryd.runUnderlying22 Tryd.sizeOf5 ⟨by omega, by omega⟩ rfl) ?_
 refine dr_q rfl rfl (q_load1 rfl Tryd.isAgg5 (i := 0) rfl h0) ?_
 refine dr_q rfl rfl (q_conv rfl Tryd.runUnderlying5 Tryd.runUnderlying62 (w_u16 (by omega) (by omega))) ?_
 refine dr_q rfl rfl (q_shl rfl rfl (by decide) (s16_8 b0)) ?_
 refine dr_q rfl rfl (q_or rfl rfl (o16l b0 b1)) ?_
 refine drA rfl rfl rfl ?_
 refine dr_nil ?_
 refine se_seq ?_
 refine scK [4] rfl ?_
 refine sc_ret ?_
 refine se_then_ret ?_
 exact se_end (res1 Tryd.results34 rfl) (fun w' hw => ⟨congrArg (fun z : Nat => Ending.returned (.int .u16 (z : Int))) (by simp [numB, beN]), hw.same_of⟩)

theorem u32_false {b o n c : Nat} {l : List Value} {e : TypeId} {fr : Nat × Nat} {x0 x1 x2 x3 : UInt8} {w : World} (hb : w.heap[b]? = some (.cells l.toArray e fr)) (hn : 4 ≤ n) (hc : n ≤ c) (h0 : l[o]? = some (u8v x0)) (h1 : l[o + 1]? = some (u8v x1)) (h2 : l[o + 2]? = some (u8v x2)) (h3 : l[o + 3]? = some (u8v x3)) :
  Calls Tryd.prog 35 #[.int .u8 0, .slice (some ⟨b, o, none⟩) n c] w fun e w' => e = .returned (.int .u32 (numB false [x0, x1, x2, x3] : Nat)) ∧ Same w w' := by
 have b0 := x0.toNat_lt
 have b1 := x1.toNat_lt
 have b2 := x2.toNat_lt
 have b3 := x3.toNat_lt
 have c0 : numB false [x0, x1] < 65536 := numB_lt' (k := 2) rfl rfl
 have c1 : numB false [x2, x3] < 65536 := numB_lt' (k := 2) rfl rfl
 refine begins E0 Tryd.func35 rfl Tryd.ntmps35 rfl [(0, _), (1, _)] ⟨rfl, rfl, trivial⟩ [(b, .cells l.toArray e fr)] ⟨hb, trivial⟩ (by simp) ?_
 refine scR ?_
 refine sqA rfl rfl ?_
 refine sqKR [0, 1] rfl ?_
 refine sqM rfl rfl ?_
 refine sq_q (q_index (j := o + 3) rfl rfl Tryd.runUnderlying22 Tryd.sizeOf5 ⟨by omega, by omega⟩ rfl) rfl ?_
 refine sq_q (q_load1 rfl Tryd.isAgg5 (i := 0) rfl h3) rfl ?_
 refine sqK [0, 1] rfl ?_
 refine sc_seq ?_
 refine scR ?_
 refine sqM rfl rfl ?_
 refine sq_q (q_decF (q_eql rfl rfl) (by decide)) rfl ?_
 refine sqK [0, 1, 9] rfl ?_
 refine sc_cond_f rfl ?_
 refine scS ?_
 refine scK [0, 1] rfl ?_
 refine sc_seq ?_
 refine sc_draw [0, 1, 2, 3, 4, 5, 6, 7, 8, 9, 10, 11] [] _ mixed (by kernel_rfl) (by kernel_rfl) (List.Subset.refl _) ?_
 iterate 2 refine drM rfl rfl rfl ?_
 refine dr_q rfl rfl (q_call (args2 rfl rfl) Tryd.call34 (fun w hw => u16_false (hw.get (i := 0) rfl) (by omega) h0 h1)) ?_
 refine dr_q rfl rfl (q_conv rfl Tryd.runUnderlying62 Tryd.runUnderlying74 (w_u32 (by omega) (by omega))) ?_
 iterate 2 refine drM rfl rfl rfl ?_
 refine dr_q rfl rfl (q_slice_k (l := 2) (j := o + 2) rfl rfl Tryd.runUnderlying22 Tryd.sizeOf5 (by omega) (by omega) rfl) ?_
 refine dr_q rfl rfl (q_call (args2 rfl rfl) Tryd.call34 (fun w hw => u16_false (o := o + 2) (hw.get (i := 0) rfl) (by omega) h2 h3)) ?_
 refine dr_q rfl rfl (q_conv rfl Tryd.runUnderlying62 Tryd.runUnderlying74 (w_u32 (by omega) (by omega))) ?_
 refine dr_q rfl rfl (q_shl rfl rfl (by decide) (s32_16 c1)) ?_
 refine dr_q rfl rfl (q_or rfl rfl (o32l c1 c0)) ?_
 refine drA rfl rfl rfl ?_
 refine dr_nil ?_
 refine se_seq ?_
 refine scK [4] rfl ?_
 refine sc_ret ?_
 exact se_end (res1 Tryd.results35 rfl) (fun w' hw => ⟨congrArg (fun z : Nat => Ending.returned (.int .u32 (z : Int))) (by simp [numB, beN]; omega), hw.same_of⟩)

theorem u32_true {b o n c : Nat} {l : List Value} {e : TypeId} {fr : Nat × Nat} {x0 x1 x2 x3 : UInt8} {w : World} (hb : w.heap[b]? = some (.cells l.toArray e fr)) (hn : 4 ≤ n) (hc : n ≤ c) (h0 : l[o]? = some (u8v x0)) (h1 : l[o + 1]? = some (u8v x1)) (h2 : l[o + 2]? = some (u8v x2)) (h3 : l[o + 3]? = some (u8v x3)) :
  Calls Tryd.prog 35 #[.int .u8 1, .slice (some ⟨b, o, none⟩) n c] w fun e w' => e = .returned (.int .u32 (numB true [x0, x1, x2, x3] : Nat)) ∧ Same w w' := by
 have b0 := x0.toNat_lt
 have b1 := x1.toNat_lt
 have b2 := x2.toNat_lt
 have b3 := x3.toNat_lt
 have c0 : numB true [x0, x1] < 65536 := numB_lt' (k := 2) rfl rfl
 have c1 : numB true [x2, x3] < 65536 := numB_lt' (k := 2) rfl rfl
 refine begins E0 Tryd.func35 rfl Tryd.ntmps35 rfl [(0, _), (1, _)] ⟨rfl, rfl, trivial⟩ [(b, .cells l.toArray e fr)] ⟨hb, trivial⟩ (by simp) ?_
 refine scR ?_
 refine sqA rfl rfl ?_
 refine sqKR [0, 1] rfl ?_
 refine sqM rfl rfl ?_
 refine sq_q (q_index (j := o + 3) rfl rfl Tryd.runUnderlying22 Tryd.sizeOf5 ⟨by omega, by omega⟩ rfl) rfl ?_
 refine sq_q (q_load1 rfl Tryd.isAgg5 (i := 0) rfl h3) rfl ?_
 refine sqK [0, 1] rfl ?_
 refine sc_seq ?_
 refine scR ?_
 refine sqM rfl rfl ?_
 refine sq_q (q_decT (q_eql rfl rfl) (by decide)) rfl ?_
 refine sqK [0, 1, 9] rfl ?_
 refine sc_cond_t rfl ?_
 refine sc_seq ?_
 refine sc_draw [0, 1, 2, 3, 4, 5, 6, 7, 8, 9, 10, 11] [] _ mixed (by kernel_rfl) (by kernel_rfl) (List.Subset.refl _) ?_
 iterate 2 refine drM rfl rfl rfl ?_
 refine dr_q rfl rfl (q_call (args2 rfl rfl) Tryd.call34 (fun w hw => u16_true (hw.get (i := 0) rfl) (by omega) h0 h1)) ?_
 refine dr_q rfl rfl (q_conv rfl Tryd.runUnderlying62 Tryd.runUnderlying74 (w_u32 (by omega) (by omega))) ?_
 refine dr_q rfl rfl (q_shl rfl rfl (by decide) (s32_16 c0)) ?_
 iterate 2 refine drM rfl rfl rfl ?_
 refine dr_q rfl rfl (q_slice_k (l := 2) (j := o + 2) rfl rfl Tryd.runUnderlying22 Tryd.sizeOf5 (by omega) (by omega) rfl) ?_
 refine dr_q rfl rfl (q_call (args2 rfl rfl) Tryd.call34 (fun w hw => u16_true (o := o + 2) (hw.get (i := 0) rfl) (by omega) h2 h3)) ?_
 refine dr_q rfl rfl (q_conv rfl Tryd.runUnderlying62 Tryd.runUnderlying74 (w_u32 (by omega) (by omega))) ?_
 refine dr_q rfl rfl (q_or rfl rfl (o32h c0 c1)) ?_
 refine drA rfl rfl rfl ?_
 refine dr_nil ?_
 refine se_seq ?_
 refine scK [4] rfl ?_
 refine sc_ret ?_
 refine se_then_ret ?_
 exact se_end (res1 Tryd.results35 rfl) (fun w' hw => ⟨congrArg (fun z : Nat => Ending.returned (.int .u32 (z : Int))) (by simp [numB, beN]; omega), hw.same_of⟩)

theorem u64_false {b o n c : Nat} {l : List Value} {e : TypeId} {fr : Nat × Nat} {x0 x1 x2 x3 x4 x5 x6 x7 : UInt8} {w : World} (hb : w.heap[b]? = some (.cells l.toArray e fr)) (hn : 8 ≤ n) (hc : n ≤ c) (h0 : l[o]? = some (u8v x0)) (h1 : l[o + 1]? = some (u8v x1)) (h2 : l[o + 2]? = some (u8v x2)) (h3 : l[o + 3]? = some (u8v x3)) (h4 : l[o + 4]? = some (u8v x4)) (h5 : l[o + 5]? = some (u8v x5)) (h6 : l[o + 6]? = some (u8v x6)) (h7 : l[o + 7]? = some (u8v x7)) :
  Calls Tryd.prog 36 #[.int .u8 0, .slice (some ⟨b, o, none⟩) n c] w fun e w' => e = .returned (.int .u64 (numB false [x0, x1, x2, x3, x4, x5, x6, x7] : Nat)) ∧ Same w w' := by
 have b0 := x0.toNat_lt
 have b1 := x1.toNat_lt
 have b2 := x2.toNat_lt
 have b3 := x3.toNat_lt
 have b4 := x4.toNat_lt
 have b5 := x5.toNat_lt
 have b6 := x6.toNat_lt
 have b7 := x7.toNat_lt
 have c0 : numB false [x0, x1, x2, x3] < 4294967296 := numB_lt' (k := 4) rfl rfl
 have c1 : numB false [x4, x5, x6, x7] < 4294967296 := numB_lt' (k := 4) rfl rfl
 refine begins E0 Tryd.func36 rfl Tryd.ntmps36 rfl [(0, _), (1, _)] ⟨rfl, rfl, trivial⟩ [(b, .cells l.toArray e fr)] ⟨hb, trivial⟩ (by simp) ?_
 refine scR ?_
 refine sqA rfl rfl ?_
 refine sqKR [0, 1] rfl ?_
 refine sqM rfl rfl ?_
 refine sq_q (q_index (j := o + 7) rfl rfl Tryd.runUnderlying22 Tryd.sizeOf5 ⟨by omega, by omega⟩ rfl) rfl ?_
 refine sq_q (q_load1 rfl Tryd.isAgg5 (i := 0) rfl h7) rfl ?_
 refine sqK [0, 1] rfl ?_
 refine sc_seq ?_
 refine scR ?_
 refine sqM rfl rfl ?_
 refine sq_q (q_decF (q_eql rfl rfl) (by decide)) rfl ?_
 refine sqK [0, 1, 9] rfl ?_
 refine sc_cond_f rfl ?_
 refine scS ?_
 refine scK [0, 1] rfl ?_
 refine sc_seq ?_
 refine sc_draw [0, 1, 2, 3, 4, 5, 6, 7, 8, 9, 10, 11] [] _ mixed (by kernel_rfl) (by kernel_rfl) (List.Subset.refl _) ?_
 iterate 2 refine drM rfl rfl rfl ?_
 refine dr_q rfl rfl (q_call (args2 rfl rfl) Tryd.call35 (fun w hw => u32_false (hw.get (i := 0) rfl) (by omega) (by omega) h0 h1 h2 h3)) ?_
 refine dr_q rfl rfl (q_conv rfl Tryd.runUnderlying74 Tryd.runUnderlying23 (w_u64 (by omega) (by omega))) ?_
 iterate 2 refine drM rfl rfl rfl ?_
 refine dr_q rfl rfl (q_slice_k (l := 4) (j := o + 4) rfl rfl Tryd.runUnderlying22 Tryd.sizeOf5 (by omega) (by omega) rfl) ?_
 refine dr_q rfl rfl (q_call (args2 rfl rfl) Tryd.call35 (fun w hw => u32_false (o := o + 4) (hw.get (i := 0) rfl) (by omega) (by omega) h4 h5 h6 h7)) ?_
 refine dr_q rfl rfl (q_conv rfl Tryd.runUnderlying74 Tryd.runUnderlying23 (w_u64 (by omega) (by omega))) ?_
 refine dr_q rfl rfl (q_shl rfl rfl (by decide) (s64_32 c1)) ?_
 refine dr_q rfl rfl (q_or rfl rfl (o64l c1 c0)) ?_
 refine drA rfl rfl rfl ?_
 refine dr_nil ?_
 refine se_seq ?_
 refine scK [4] rfl ?_
 refine sc_ret ?_
 exact se_end (res1 Tryd.results36 rfl) (fun w' hw => ⟨congrArg (fun z : Nat => Ending.returned (.int .u64 (z : Int))) (by simp [numB, beN]; omega), hw.same_of⟩)

theorem u64_true {b o n c : Nat} {l : List Value} {e : TypeId} {fr : Nat × Nat} {x0 x1 x2 x3 x4 x5 x6 x7 : UInt8} {w : World} (hb : w.heap[b]? = some (.cells l.toArray e fr)) (hn : 8 ≤ n) (hc : n ≤ c) (h0 : l[o]? = some (u8v x0)) (h1 : l[o + 1]? = some (u8v x1)) (h2 : l[o + 2]? = some (u8v x2)) (h3 : l[o + 3]? = some (u8v x3)) (h4 : l[o + 4]? = some (u8v x4)) (h5 : l[o + 5]? = some (u8v x5)) (h6 : l[o + 6]? = some (u8v x6)) (h7 : l[o + 7]? = some (u8v x7)) :
  Calls Tryd.prog 36 #[.int .u8 1, .slice (some ⟨b, o, none⟩) n c] w fun e w' => e = .returned (.int .u64 (numB true [x0, x1, x2, x3, x4, x5, x6, x7] : Nat)) ∧ Same w w' := by
 have b0 := x0.toNat_lt
 have b1 := x1.toNat_lt
 have b2 := x2.toNat_lt
 have b3 := x3.toNat_lt
 have b4 := x4.toNat_lt
 have b5 := x5.toNat_lt
 have b6 := x6.toNat_lt
 have b7 := x7.toNat_lt
 have c0 : numB true [x0, x1, x2, x3] < 4294967296 := numB_lt' (k := 4) rfl rfl
 have c1 : numB true [x4, x5, x6, x7] < 4294967296 := numB_lt' (k := 4) rfl rfl
 refine begins E0 Tryd.func36 rfl Tryd.ntmps36 rfl [(0, _), (1, _)] ⟨rfl, rfl, trivial⟩ [(b, .cells l.toArray e fr)] ⟨hb, trivial⟩ (by simp) ?_
 refine scR ?_
 refine sqA rfl rfl ?_
 refine sqKR [0, 1] rfl ?_
 refine sqM rfl rfl ?_
 refine sq_q (q_index (j := o + 7) rfl rfl Tryd.runUnderlying22 Tryd.sizeOf5 ⟨by omega, by omega⟩ rfl) rfl ?_
 refine sq_q (q_load1 rfl Tryd.isAgg5 (i := 0) rfl h7) rfl ?_
 refine sqK [0, 1] rfl ?_
 refine sc_seq ?_
 refine scR ?_
 refine sqM rfl rfl ?_
 refine sq_q (q_decT (q_eql rfl rfl) (by decide)) rfl ?_
 refine sqK [0, 1, 9] rfl ?_
 refine sc_cond_t rfl ?_
 refine sc_seq ?_
 refine sc_draw [0, 1, 2, 3, 4, 5, 6, 7, 8, 9, 10, 11] [] _ mixed (by kernel_rfl) (by kernel_rfl) (List.Subset.refl _) ?_
 iterate 2 refine drM rfl rfl rfl ?_
 refine dr_q rfl rfl (q_call (args2 rfl rfl) Tryd.call35 (fun w hw => u32_true (hw.get (i := 0) rfl) (by omega) (by omega) h0 h1 h2 h3)) ?_
 refine dr_q rfl rfl (q_conv rfl Tryd.runUnderlying74 Tryd.runUnderlying23 (w_u64 (by omega) (by omega))) ?_
 refine dr_q rfl rfl (q_shl rfl rfl (by decide) (s64_32 c0)) ?_
 iterate 2 refine drM rfl rfl rfl ?_
 refine dr_q rfl rfl (q_slice_k (l := 4) (j := o + 4) rfl rfl Tryd.runUnderlying22 Tryd.sizeOf5 (by omega) (by omega) rfl) ?_
 refine dr_q rfl rfl (q_call (args2 rfl rfl) Tryd.call35 (fun w hw => u32_true (o := o + 4) (hw.get (i := 0) rfl) (by omega) (by omega) h4 h5 h6 h7)) ?_
 refine dr_q rfl rfl (q_conv rfl Tryd.runUnderlying74 Tryd.runUnderlying23 (w_u64 (by omega) (by omega))) ?_
 refine dr_q rfl rfl (q_or rfl rfl (o64h c0 c1)) ?_
 refine drA rfl rfl rfl ?_
 refine dr_nil ?_
 refine se_seq ?_
 refine scK [4] rfl ?_
 refine sc_ret ?_
 refine se_then_ret ?_
 exact se_end (res1 Tryd.results36 rfl) (fun w' hw => ⟨congrArg (fun z : Nat => Ending.returned (.int .u64 (z : Int))) (by simp [numB, beN]; omega), hw.same_of⟩)

/-- The bytes xs lie at o. -/
def At (l : List Value) (o : Nat) (xs : List UInt8) : Prop := (l.drop o).take xs.length = xs.map u8v
theorem At.get {l : List Value} {o : Nat} {xs : List UInt8} (h : At l o xs) {i : Nat} {x : UInt8} (hi : xs[i]? = some x) : l[o + i]? = some (u8v x) := by
 have hlt := (List.getElem?_eq_some_iff.1 hi).1
 have h1 : (xs.map u8v)[i]? = some (u8v x) := by simp [hi]
 rw [← h, List.getElem?_take, if_pos hlt] at h1
 simpa using h1

theorem rd16 (big : Bool) {b o n c : Nat} {l : List Value} {e : TypeId} {fr : Nat × Nat} {xs : List UInt8} {w : World} (hb : w.heap[b]? = some (.cells l.toArray e fr)) (hn : 2 ≤ n) (hx : xs.length = 2) (hl : At l o xs) :
  Calls Tryd.prog 34 #[.int .u8 (ordN big), .slice (some ⟨b, o, none⟩) n c] w fun e w' => e = .returned (.int .u16 (numB big xs : Nat)) ∧ Same w w' := by
 match xs, hx with
 | [x0, x1], _ =>
  cases big
  ·
   exact u16_false hb hn (hl.get (i := 0) rfl) (hl.get (i := 1) rfl)
  ·
   exact u16_true hb hn (hl.get (i := 0) rfl) (hl.get (i := 1) rfl)
theorem rd32 (big : Bool) {b o n c : Nat} {l : List Value} {e : TypeId} {fr : Nat × Nat} {xs : List UInt8} {w : World} (hb : w.heap[b]? = some (.cells l.toArray e fr)) (hn : 4 ≤ n) (hc : n ≤ c) (hx : xs.length = 4) (hl : At l o xs) :
  Calls Tryd.prog 35 #[.int .u8 (ordN big), .slice (some ⟨b, o, none⟩) n c] w fun e w' => e = .returned (.int .u32 (numB big xs : Nat)) ∧ Same w w' := by
 match xs, hx with
 | [x0, x1, x2, x3], _ =>
  cases big
  ·
   exact u32_false hb hn hc (hl.get (i := 0) rfl) (hl.get (i := 1) rfl) (hl.get (i := 2) rfl) (hl.get (i := 3) rfl)
  ·
   exact u32_true hb hn hc (hl.get (i := 0) rfl) (hl.get (i := 1) rfl) (hl.get (i := 2) rfl) (hl.get (i := 3) rfl)
theorem rd64 (big : Bool) {b o n c : Nat} {l : List Value} {e : TypeId} {fr : Nat × Nat} {xs : List UInt8} {w : World} (hb : w.heap[b]? = some (.cells l.toArray e fr)) (hn : 8 ≤ n) (hc : n ≤ c) (hx : xs.length = 8) (hl : At l o xs) :
  Calls Tryd.prog 36 #[.int .u8 (ordN big), .slice (some ⟨b, o, none⟩) n c] w fun e w' => e = .returned (.int .u64 (numB big xs : Nat)) ∧ Same w w' := by
 match xs, hx with
 | [x0, x1, x2, x3, x4, x5, x6, x7], _ =>
  cases big
  ·
   exact u64_false hb hn hc (hl.get (i := 0) rfl) (hl.get (i := 1) rfl) (hl.get (i := 2) rfl) (hl.get (i := 3) rfl) (hl.get (i := 4) rfl) (hl.get (i := 5) rfl) (hl.get (i := 6) rfl) (hl.get (i := 7) rfl)
  ·
   exact u64_true hb hn hc (hl.get (i := 0) rfl) (hl.get (i := 1) rfl) (hl.get (i := 2) rfl) (hl.get (i := 3) rfl) (hl.get (i := 4) rfl) (hl.get (i := 5) rfl) (hl.get (i := 6) rfl) (hl.get (i := 7) rfl)

end Go.Proofs.YtgkjnkhoopcjgaaDoor
/- Readers: what a reader's ReadAt gives of a content, laid into a row; memory behind it. No condition. -/
namespace Go.Sx
open Go.Proofs Go.Proofs.YtgkjnkhoopcjgaaDoor
set_option maxRecDepth 100000
variable {P : Program} {w0 : World} {E : Nat → Prop} {fm : FM} {N : Nat} {mm : MM} {d : Option Nat} {ty : TypeId} {pos : String} {after : Array Edge} {g : Option (Nat × Bool)}

theorem w_i64e {a r : Int} (h : a = r) (h0 : -9223372036854775808 ≤ r) (h1 : r ≤ 9223372036854775807) : IntKind.i64.wrap a = r := by subst h; exact w_i64 h0 h1
theorem w_u64e {a r : Int} (h : a = r) (h0 : 0 ≤ r) (h1 : r ≤ 18446744073709551615) : IntKind.u64.wrap a = r := by subst h; exact w_u64 h0 h1
theorem w_u32e {a r : Int} (h : a = r) (h0 : 0 ≤ r) (h1 : r ≤ 4294967295) : IntKind.u32.wrap a = r := by subst h; exact w_u32 h0 h1

/-- A row's cells, bytes laid over them. -/
def lay (l : List Value) (o : Nat) (xs : List UInt8) : List Value := l.take o ++ xs.map u8v ++ l.drop (o + xs.length)
theorem lay_nil (l : List Value) (o : Nat) : lay l o [] = l := by simp [lay]
theorem lay_all (l : List Value) (xs : List UInt8) (h : xs.length = l.length) : lay l 0 xs = xs.map u8v := by simp [lay, h]
theorem lay_length {l : List Value} {o : Nat} {xs : List UInt8} (h : o + xs.length ≤ l.length) : (lay l o xs).length = l.length := by simp [lay]; omega

/-- A package-level variable that holds an error. -/
structure Gx where
  l : List Value
  e : TypeId
  fr : Nat × Nat
  a : Addr
  h : l[0]? = some (.iface 177 (.pointer (some a)))
abbrev Gx.o (g : Gx) : Obj := .cells g.l.toArray g.e g.fr
abbrev Gx.v (g : Gx) : Value := .iface 177 (.pointer (some g.a))

/-- What a read gives: the bytes, the error, the memory's size. -/
structure Rx where
  xs : List UInt8
  err : Value
  N : Nat

/-- One block is another now; others may have been laid. -/
theorem Mem.wrote {w w' : World} (h : Mem w0 E N mm w) {i b : Nat} {o o' : Obj} (hi : mm[i]? = some (b, o)) (he : Eff (fun k => k = b) w w') (hb : w'.heap[b]? = some o') (hE : b < w0.heap.size → E b) :
    Mem w0 E w'.heap.size (mm.set i (b, o')) w' := by
  have hil : i < mm.length := (List.getElem?_eq_some_iff.1 hi).1
  have hbi : mm[i] = (b, o) := (List.getElem?_eq_some_iff.1 hi).2
  have hkeys : (mm.set i (b, o')).map Prod.fst = mm.map Prod.fst := by
    rw [List.map_set]
    apply List.ext_getElem?
    intro j
    by_cases hj : i = j
    · subst hj; simp [hil, hbi]
    · simp [List.getElem?_set_ne hj]
  refine ⟨rfl, ?_, by rw [hkeys]; exact h.nd, h.eff.trans he ?_⟩
  · intro p hp
    obtain ⟨j, hj, hjp⟩ := List.getElem_of_mem hp
    have hjl : j < mm.length := by simpa using hj
    by_cases hij : i = j
    · subst hij
      simp at hjp
      subst hjp
      exact hb
    · have hp' : mm[j] = p := by rw [← hjp]; simp [List.getElem_set_ne hij]
      have hpm : p ∈ mm := hp' ▸ List.getElem_mem hjl
      have hne : p.1 ≠ b := by
        intro he'
        have hi' : i < (mm.map Prod.fst).length := by simpa using hil
        have hj' : j < (mm.map Prod.fst).length := by simpa using hjl
        have h1 : (mm.map Prod.fst)[i] = b := by simp [hbi]
        have h2 : (mm.map Prod.fst)[j] = b := by simp [hp', he']
        rcases Nat.lt_trichotomy i j with hlt | heq | hgt
        · exact List.pairwise_iff_getElem.1 h.nd i j hi' hj' hlt (h1.trans h2.symm)
        · exact hij heq
        · exact List.pairwise_iff_getElem.1 h.nd j i hj' hi' hgt (h2.trans h1.symm)
      rw [he.block p.1 (by rw [h.size]; exact h.lt hpm) hne]
      exact h.has p hpm
  · rintro k rfl hk
    exact hE hk

/-- What ReadAt of the reader (t, u) does, where the blocks ms lie: R tells its bytes and its error of a place and a length. -/
structure RC (g : Gx) (t : TypeId) (u : Value) (ms : MM) (R : Nat → Nat → List UInt8 → Value → Prop) : Prop where
  err : ∀ off m xs e, R off m xs e → xs.length ≤ m ∧ ((e = .nilIface ∧ xs.length = m) ∨ e = g.v ∨ (xs = [] ∧ ∃ t u, e = .iface t u))
  read : ∃ f, (∀ w, (method (Tryd.prog.types.size + Made.depth) t u "ReadAt").run Tryd.prog w = .ok (f, u) w) ∧ (∀ args w, (callFunc f args).run Tryd.prog w = .ok (.enter f args) w) ∧
    ∀ w pb po m mc l e off, Has ms w → w.heap[1]? = some g.o → 1 ≠ pb → w.heap[pb]? = some (.cells l.toArray e (0, 0)) → (∀ p ∈ ms, p.1 ≠ pb) → po + m ≤ l.length → m ≤ mc → mc ≤ 9223372036854775807 → off ≤ 9223372036854775807 →
      Calls Tryd.prog f #[u, .slice (some ⟨pb, po, none⟩) m mc, .int .i64 (off : Nat)] w fun en w' =>
        ∃ xs err, R off m xs err ∧ en = .returned (.tuple #[.int .i64 (xs.length : Nat), err]) ∧ Eff (fun k => k = pb) w w' ∧ w'.heap[pb]? = some (.cells (lay l po xs).toArray e (0, 0))

/-- A read through an interface. -/
theorem RC.inv {gx : Gx} {t : TypeId} {u : Value} {ms : MM} {R : Nat → Nat → List UInt8 → Value → Prop} (h : RC gx t u ms R) {x p o : Operand} {ts : Array TypeId} {pb po m mc off i : Nat} {l : List Value} {e : TypeId} {mm' : List UInt8 → MM}
    (hx : fm.ev x = some (.iface t u)) (hp : fm.ev p = some (.slice (some ⟨pb, po, none⟩) m mc)) (ho : fm.ev o = some (.int .i64 ((off : Nat) : Int))) (hm : mm[i]? = some (pb, .cells l.toArray e (0, 0))) (hs : List.Subset ms mm) (h1 : (1, gx.o) ∈ mm) (hp1 : 1 ≠ pb) (hne : ∀ p ∈ ms, p.1 ≠ pb)
    (hl : po + m ≤ l.length) (hc : m ≤ mc) (hmc : mc ≤ 9223372036854775807) (hoff : off ≤ 9223372036854775807) (hmm : ∀ xs, setK mm i (pb, .cells (lay l po xs).toArray e (0, 0)) some = some (mm' xs)) (hE : pb < w0.heap.size → E pb) :
    Main Tryd.prog w0 E fm N mm ⟨d, .call { callee := .invoke x "ReadAt", args := #[p, o], argTypes := ts }, ty, pos, after, g⟩ (fun z : Rx => .tuple #[.int .i64 (z.xs.length : Nat), z.err]) (fun z => z.N) (fun z => mm' z.xs) (fun z => R off m z.xs z.err ∧ N ≤ z.N) := by
  obtain ⟨f, h4, h2, h3⟩ := h.read
  refine m_invoke (xs := [p, o]) (vs := [.slice (some ⟨pb, po, none⟩) m mc, .int .i64 ((off : Nat) : Int)]) hx (fun ρ hρ => by simp [hρ _ _ hp, hρ _ _ ho]) h4 h2 fun w hw => ?_
  refine Calls.mono (h3 w pb po m mc l e off (fun q hq => hw.has q (hs hq)) (hw.has _ h1) hp1 (hw.get hm) hne hl hc hmc hoff) fun en w' ⟨xs, err, hR, hen, he, hb⟩ => ?_
  refine ⟨⟨xs, err, w'.heap.size⟩, ⟨hR, by rw [← hw.size]; exact he.size⟩, hen, ?_⟩
  obtain ⟨_, hms⟩ := setK_eq (hmm xs)
  simp only [Option.some.injEq] at hms
  exact hms ▸ hw.wrote hm he hb hE

/-- What a read of a content gives. -/
def RD (g : Gx) (D : List UInt8) (off m : Nat) (xs : List UInt8) (err : Value) : Prop :=
  xs = (D.drop off).take m ∧ ((err = .nilIface ∧ xs.length = m) ∨ (err = g.v ∧ (xs.length < m ∨ m = 0)))

/-- What a section reader's ReadAt gives over a reader. -/
def SR (g : Gx) (R : Nat → Nat → List UInt8 → Value → Prop) (base lim off m : Nat) (xs : List UInt8) (err : Value) : Prop :=
  (lim - base ≤ off ∧ xs = [] ∧ err = g.v) ∨ (off < lim - base ∧ m ≤ lim - base - off ∧ R (off + base) m xs err) ∨
    (off < lim - base ∧ lim - base - off < m ∧ ∃ e0, R (off + base) (lim - base - off) xs e0 ∧ (e0 = .nilIface ∧ err = g.v ∨ e0 = err ∧ (err = g.v ∨ xs = [] ∧ ∃ t u, err = .iface t u)))

theorem SR.rd {g : Gx} {D : List UInt8} {base lim off m : Nat} {xs : List UInt8} {err : Value} (h : SR g (RD g D) base lim off m xs err) : RD g ((D.drop base).take (lim - base)) off m xs err := by
  have hc : (((D.drop base).take (lim - base)).drop off).take m = (D.drop (off + base)).take (min m (lim - base - off)) := by
    rw [List.drop_take, List.take_take, List.drop_drop, Nat.add_comm base off]
  rcases h with ⟨h1, rfl, rfl⟩ | ⟨h1, h2, rfl, h3⟩ | ⟨h1, h2, e0, ⟨rfl, h3⟩, h4⟩
  · refine ⟨?_, .inr ⟨rfl, by simp; omega⟩⟩
    rw [hc, show lim - base - off = 0 by omega]
    simp
  · refine ⟨?_, h3⟩
    rw [hc, Nat.min_eq_left h2]
  · refine ⟨?_, .inr ⟨?_, .inl ?_⟩⟩
    · rw [hc, Nat.min_eq_right (by omega)]
    · rcases h4 with ⟨_, h4⟩ | ⟨rfl, h4 | ⟨h5, t, u, h4⟩⟩
      · exact h4
      · exact h4
      · rcases h3 with ⟨h3, _⟩ | ⟨h3, _⟩
        · rw [h3] at h4; cases h4
        · exact h3
    · rw [List.length_take]; omega

theorem RD.err {g : Gx} {D : List UInt8} {off m : Nat} {xs : List UInt8} {e : Value} (h : RD g D off m xs e) : xs.length ≤ m ∧ ((e = .nilIface ∧ xs.length = m) ∨ e = g.v ∨ (xs = [] ∧ ∃ t u, e = .iface t u)) := by
  obtain ⟨rfl, h⟩ := h
  refine ⟨by rw [List.length_take]; omega, ?_⟩
  rcases h with h | ⟨h, _⟩
  · exact .inl h
  · exact .inr (.inl h)
theorem SR.err {g : Gx} {R : Nat → Nat → List UInt8 → Value → Prop} (hR : ∀ off m xs e, R off m xs e → xs.length ≤ m ∧ ((e = .nilIface ∧ xs.length = m) ∨ e = g.v ∨ (xs = [] ∧ ∃ t u, e = .iface t u)))
    {base lim off m : Nat} {xs : List UInt8} {e : Value} (h : SR g R base lim off m xs e) : xs.length ≤ m ∧ ((e = .nilIface ∧ xs.length = m) ∨ e = g.v ∨ (xs = [] ∧ ∃ t u, e = .iface t u)) := by
  rcases h with ⟨h1, rfl, rfl⟩ | ⟨h1, h2, h3⟩ | ⟨h1, h2, e0, h3, h4⟩
  · exact ⟨Nat.zero_le _, .inr (.inl rfl)⟩
  · exact hR _ _ _ _ h3
  · refine ⟨by have := (hR _ _ _ _ h3).1; omega, ?_⟩
    rcases h4 with ⟨_, h4⟩ | ⟨_, h4⟩
    · exact .inr (.inl h4)
    · exact .inr h4

theorem RC.weak {gx : Gx} {t : TypeId} {u : Value} {ms : MM} {R R' : Nat → Nat → List UInt8 → Value → Prop} (h : RC gx t u ms R) (hR : ∀ off m xs e, R off m xs e → R' off m xs e)
    (he : ∀ off m xs e, R' off m xs e → xs.length ≤ m ∧ ((e = .nilIface ∧ xs.length = m) ∨ e = gx.v ∨ (xs = [] ∧ ∃ t u, e = .iface t u))) : RC gx t u ms R' := by
  obtain ⟨f, h1, h2, h3⟩ := h.read
  exact ⟨he, f, h1, h2, fun w pb po m mc l e off a1 a2 a3 a4 a5 a6 a7 a8 a9 => (h3 w pb po m mc l e off a1 a2 a3 a4 a5 a6 a7 a8 a9).mono fun en w' ⟨xs, err, hr, hrest⟩ => ⟨xs, err, hR _ _ _ _ hr, hrest⟩⟩

/-- A section reader's block. -/
abbrev srO (v : Value) (base cur lim : Nat) (nn : Value) : Obj := .cells [v, .int .i64 (base : Int), .int .i64 (cur : Int), .int .i64 (lim : Int), nn].toArray 172 (0, 0)

theorem Mem.eff_at {w w' : World} {F : Nat → Prop} {mm : MM} {N : Nat} (h : Mem w F N mm w') : Eff F w w' := h.eff
end Go.Sx
/- Texts out of bytes, quotients, pieces of bytes. No condition. -/
namespace Go.Sx
variable {P : Program} {fm : FM} {mm : MM} {d : Option Nat} {ty : TypeId} {pos : String} {after : Array Edge} {g : Option (Nat × Bool)} {v : Value} {x y : Operand}

/-- A text of bytes. -/
def strB (xs : List UInt8) : ByteArray := ⟨xs.toArray⟩
theorem strB_toList (xs : List UInt8) : (strB xs).toList = xs := by
  rw [ByteArray.toList_eq]; rfl

theorem q_bstr {t t2 e : TypeId} {b o n c i : Nat} {l : List Value} {xs : List UInt8} {e2 : TypeId} {fr : Nat × Nat} (hx : fm.ev x = some (.slice (some ⟨b, o, none⟩) n c)) (hm : mm[i]? = some (b, .cells l.toArray e2 fr))
    (hs : P.underlying t = some (.slice e)) (he : P.underlying e = some (.int .u8)) (hd : P.underlying t2 = some .string) (hn : xs.length = n) (hl : (l.drop o).take n = xs.map u8v) :
    Quiet P fm mm ⟨d, .convert t t2 x, ty, pos, after, g⟩ (.string (strB xs)) :=
  q_run fun ρ hρ w hw => by
    subst hn
    have hc : ∀ j (hj : j < xs.length), w.cell? ((⟨b, o, none⟩ : Addr).add j) = some (.int .u8 (xs[j].toNat : Int)) := fun j hj => by
      refine has_cells (hw.get hm) (n := xs.length) j _ ?_
      rw [hl]
      simp [u8v, hj]
    have := run_convert_bytes_back (P := P) w t t2 e ⟨b, o, none⟩ c xs hs he hd hc
    simp [execOp, hρ _ _ hx, this, strB]
theorem q_bstr0 {t t2 e : TypeId} {n c : Nat} (hx : fm.ev x = some (.slice none n c))
    (hs : P.underlying t = some (.slice e)) (he : P.underlying e = some (.int .u8)) (hd : P.underlying t2 = some .string) :
    Quiet P fm mm ⟨d, .convert t t2 x, ty, pos, after, g⟩ (.string (strB [])) :=
  q_run fun ρ hρ w hw => by
    have := run_convert_bytes_nil (P := P) w t e hs he n c t2 hd
    simp [execOp, hρ _ _ hx, this, strB]
    rfl

theorem q_quoN {t t2 : TypeId} {k : IntKind} {a b r : Nat} (hx : fm.ev x = some (.int k ((a : Nat) : Int))) (hy : fm.ev y = some (.int k ((b : Nat) : Int))) (hb : b ≠ 0) (hq : a / b = r) (hw : k.wrap (r : Int) = r) :
    Quiet P fm mm ⟨d, .binOp .quo t x y t2, ty, pos, after, g⟩ (.int k ((r : Nat) : Int)) :=
  q_quo hx hy (by omega) (by rw [← Int.ofNat_tdiv, hq, hw])

theorem At_map (xs : List UInt8) (o s : Nat) : Go.Proofs.YtgkjnkhoopcjgaaDoor.At (xs.map u8v) o ((xs.drop o).take s) := by
  unfold Go.Proofs.YtgkjnkhoopcjgaaDoor.At
  rw [← List.map_drop, ← List.map_take]
  congr 1
  rw [List.length_take]
  rcases Nat.le_total s (xs.drop o).length with h | h
  · rw [Nat.min_eq_left h]
  · rw [Nat.min_eq_right h, List.take_of_length_le (Nat.le_refl _), List.take_of_length_le h]

theorem sc_known {c : Code} {Q : Exit → Act → World → Prop} {n : Nat} {w0 : World} {E : Nat → Prop} {N : Nat} (h : (mm.map Prod.fst).Nodup → w0.heap.size ≤ N → (∀ p ∈ mm, p.1 < N) → Sc P c Q n w0 E fm N mm) : Sc P c Q n w0 E fm N mm :=
  fun a w ha hw => h hw.nd hw.ge (fun _ hp => hw.lt hp) a w ha hw
theorem sq_known {ops : Array Oper} {l : List Oper} {Q : Exit → Act → World → Prop} {n : Nat} {w0 : World} {E : Nat → Prop} {N : Nat} (h : (mm.map Prod.fst).Nodup → w0.heap.size ≤ N → (∀ p ∈ mm, p.1 < N) → Sq P ops Q n w0 E l fm N mm) : Sq P ops Q n w0 E l fm N mm :=
  fun a w ha hw => h hw.nd hw.ge (fun _ hp => hw.lt hp) a w ha hw

/-- The guard's own operation was passed over. -/
theorem sq_gu {ops : Array Oper} {rest : List Oper} {op : Op} {Q : Exit → Act → World → Prop} {n : Nat} {w0 : World} {E : Nat → Prop} {N : Nat} {d j t : Nat} {b : Bool} (hj : (ops[j]?).bind (·.dst) = some t) (hc : fm.get t = some undef) (hd : Nat.blt d n = true)
    (h : Sq P ops Q n w0 E rest ((d, undef) :: fm) N mm) : Sq P ops Q n w0 E (⟨some d, op, ty, pos, after, some (j, b)⟩ :: rest) fm N mm := fun a w ha hw => by
  have hy : yielded ops a.tmps j = none := by simp [yielded, hj, ha.get t _ hc, undef]
  refine wpList_skip (by simp [Region.wanted, hy]) ?_
  exact h _ _ (ha.put (Eq.mp Nat.blt_eq hd) _) hw

/-- The text up to a zero. -/
def textFrom : List UInt8 → Option (List UInt8)
  | [] => none
  | b :: r => if b = 0 then some [] else (textFrom r).map (b :: ·)
theorem textFrom_step {xs : List UInt8} {s i : Nat} {b : UInt8} (hi : xs[i]? = some b) (hs : s ≤ i) (h : textFrom (xs.drop s) = (textFrom (xs.drop i)).map ((xs.drop s).take (i - s) ++ ·)) :
    textFrom (xs.drop s) = if b = 0 then some ((xs.drop s).take (i - s)) else (textFrom (xs.drop (i + 1))).map ((xs.drop s).take (i + 1 - s) ++ ·) := by
  have hd : xs.drop i = b :: xs.drop (i + 1) := by
    obtain ⟨h1, h2⟩ := List.getElem?_eq_some_iff.1 hi
    rw [← h2, List.getElem_cons_drop]
  rw [h, hd]
  simp only [textFrom]
  split
  · simp
  · rw [Option.map_map]
    congr 1
    funext r
    have : i + 1 - s = i - s + 1 := by omega
    rw [this, List.take_add_one, List.getElem?_drop, show s + (i - s) = i by omega, hi]
    simp
theorem textFrom_end {xs : List UInt8} {s i : Nat} (hi : xs.length ≤ i) (h : textFrom (xs.drop s) = (textFrom (xs.drop i)).map ((xs.drop s).take (i - s) ++ ·)) : textFrom (xs.drop s) = none := by
  rw [h, List.drop_of_length_le hi]; rfl
theorem textFrom_start (xs : List UInt8) (s : Nat) : textFrom (xs.drop s) = (textFrom (xs.drop s)).map ((xs.drop s).take (s - s) ++ ·) := by simp
end Go.Sx
/- What bytes are a file: plain words over lists of bytes. No program in sight. -/
namespace Go.Proofs.YtgkjnkhoopcjgaaDoor
open Go.Sx

def bv (bs : List UInt8) (k : Nat) : Nat := (bs.getD k 0).toNat
theorem bv_lt (bs : List UInt8) (k : Nat) : bv bs k < 256 := UInt8.toNat_lt _
theorem bv_get {bs : List UInt8} {k : Nat} (h : k < bs.length) : (bs.map u8v)[k]? = some (.int .u8 ((bv bs k : Nat) : Int)) := by
  simp [bv, u8v, h]
theorem bv_take {bs : List UInt8} {n k : Nat} (h : k < n) : bv (bs.take n) k = bv bs k := by
  simp only [bv, List.getD_eq_getElem?_getD, List.getElem?_take, if_pos h]

def isWide (bs : List UInt8) : Bool := bv bs 4 == 2
def isBig (bs : List UInt8) : Bool := bv bs 5 == 2
def wd (wide : Bool) (a b : Nat) : Nat := if wide then b else a

/-- A file's header. -/
structure Hd where
  type : Nat
  machine : Nat
  version : Nat
  entry : Nat
  phoff : Nat
  shoff : Nat
  phes : Nat
  phnum : Nat
  shes : Nat
  shnum : Nat
  names : Nat
def hd (bs : List UInt8) : Hd where
  type := fld (isBig bs) bs 16 2
  machine := fld (isBig bs) bs 18 2
  version := fld (isBig bs) bs 20 4
  entry := fld (isBig bs) bs 24 (wd (isWide bs) 4 8)
  phoff := fld (isBig bs) bs (wd (isWide bs) 28 32) (wd (isWide bs) 4 8)
  shoff := fld (isBig bs) bs (wd (isWide bs) 32 40) (wd (isWide bs) 4 8)
  phes := fld (isBig bs) bs (wd (isWide bs) 42 54) 2
  phnum := fld (isBig bs) bs (wd (isWide bs) 44 56) 2
  shes := fld (isBig bs) bs (wd (isWide bs) 46 58) 2
  shnum := fld (isBig bs) bs (wd (isWide bs) 48 60) 2
  names := fld (isBig bs) bs (wd (isWide bs) 50 62) 2

/-- A program's header. -/
structure PRow where
  type : Nat
  flags : Nat
  off : Nat
  vaddr : Nat
  paddr : Nat
  filesz : Nat
  memsz : Nat
  align : Nat
def prowAt (big wide : Bool) (bs : List UInt8) (a : Nat) : PRow :=
  if wide then ⟨fld big bs (a + 0) 4, fld big bs (a + 4) 4, fld big bs (a + 8) 8, fld big bs (a + 16) 8, fld big bs (a + 24) 8, fld big bs (a + 32) 8, fld big bs (a + 40) 8, fld big bs (a + 48) 8⟩
  else ⟨fld big bs (a + 0) 4, fld big bs (a + 24) 4, fld big bs (a + 4) 4, fld big bs (a + 8) 4, fld big bs (a + 12) 4, fld big bs (a + 16) 4, fld big bs (a + 20) 4, fld big bs (a + 28) 4⟩
def prow (bs : List UInt8) (i : Nat) : PRow := prowAt (isBig bs) (isWide bs) bs ((hd bs).phoff + i * (hd bs).phes)
def PRow.Ok (p : PRow) : Prop := p.off < 9223372036854775808 ∧ p.filesz < 9223372036854775808

/-- A section's header. -/
structure SRow where
  name : Nat
  type : Nat
  flags : Nat
  addr : Nat
  off : Nat
  size : Nat
  link : Nat
  info : Nat
  align : Nat
  ents : Nat
def srowAt (big wide : Bool) (bs : List UInt8) (a : Nat) : SRow :=
  if wide then ⟨fld big bs (a + 0) 4, fld big bs (a + 4) 4, fld big bs (a + 8) 8 % 4294967296, fld big bs (a + 16) 8, fld big bs (a + 24) 8, fld big bs (a + 32) 8, fld big bs (a + 40) 4, fld big bs (a + 44) 4, fld big bs (a + 48) 8, fld big bs (a + 56) 8⟩
  else ⟨fld big bs (a + 0) 4, fld big bs (a + 4) 4, fld big bs (a + 8) 4, fld big bs (a + 12) 4, fld big bs (a + 16) 4, fld big bs (a + 20) 4, fld big bs (a + 24) 4, fld big bs (a + 28) 4, fld big bs (a + 32) 4, fld big bs (a + 36) 4⟩
def srow (bs : List UInt8) (i : Nat) : SRow := srowAt (isBig bs) (isWide bs) bs ((hd bs).shoff + i * (hd bs).shes)
def SRow.Ok (p : SRow) : Prop := p.off < 9223372036854775808 ∧ p.size < 9223372036854775808
def Comp (fl : Nat) : Int := IntKind.u32.wrap ((BitVec.ofInt IntKind.u32.bits (fl : Int) &&& BitVec.ofInt IntKind.u32.bits 2048).toNat : Int)

/-- A piece is whole in the bytes. -/
def CutOk (bs : List UInt8) (a n : Nat) : Prop := n = 0 ∨ a + n ≤ bs.length
def cut (bs : List UInt8) (a n : Nat) : List UInt8 := (bs.drop a).take n

structure HeadOk (bs : List UInt8) : Prop where
  len : 16 ≤ bs.length
  m0 : bv bs 0 = 127
  m1 : bv bs 1 = 69
  m2 : bv bs 2 = 76
  m3 : bv bs 3 = 70
  cls : bv bs 4 = 1 ∨ bv bs 4 = 2
  dat : bv bs 5 = 1 ∨ bv bs 5 = 2
  ver : bv bs 6 = 1
  size : wd (isWide bs) 52 64 ≤ bs.length
  ver4 : (hd bs).version % 256 = 1
  ph : (hd bs).phoff < 9223372036854775808
  sh : (hd bs).shoff < 9223372036854775808
  zero : (hd bs).shoff = 0 ↔ (hd bs).shnum = 0
  nm : 0 < (hd bs).shnum → (hd bs).names < (hd bs).shnum
  phe : 0 < (hd bs).phnum → wd (isWide bs) 32 56 ≤ (hd bs).phes
  she : 0 < (hd bs).shnum → wd (isWide bs) 40 64 ≤ (hd bs).shes

/-- The bytes that hold the names. -/
def texts (bs : List UInt8) : List UInt8 := cut bs (srow bs (hd bs).names).off (srow bs (hd bs).names).size
/-- A section's name. -/
def nameAt (bs : List UInt8) (i : Nat) : Option (List UInt8) := if (srow bs i).name < (texts bs).length then textFrom ((texts bs).drop (srow bs i).name) else none
def named (bs : List UInt8) : Bool := decide (0 < (hd bs).shnum) && decide (0 < (hd bs).names)
def nameOf (bs : List UInt8) (i : Nat) : List UInt8 := if named bs then (nameAt bs i).getD [] else []

/-- Bytes that are a file. -/
structure Good (bs : List UInt8) : Prop where
  head : HeadOk bs
  pcut : CutOk bs (hd bs).phoff ((hd bs).phnum * (hd bs).phes)
  ps : ∀ i, i < (hd bs).phnum → (prow bs i).Ok
  scut : CutOk bs (hd bs).shoff ((hd bs).shnum * (hd bs).shes)
  ss : ∀ i, i < (hd bs).shnum → (srow bs i).Ok
  st : named bs = true → (srow bs (hd bs).names).type = 3 ∧ CutOk bs (srow bs (hd bs).names).off (srow bs (hd bs).names).size ∧ ∀ i, i < (hd bs).shnum → (nameAt bs i).isSome = true

/-- No compressed section among those that are read. -/
def Plain (bs : List UInt8) : Prop :=
  HeadOk bs → CutOk bs (hd bs).phoff ((hd bs).phnum * (hd bs).phes) → (∀ i, i < (hd bs).phnum → (prow bs i).Ok) → CutOk bs (hd bs).shoff ((hd bs).shnum * (hd bs).shes) →
    ∀ i, i < (hd bs).shnum → (∀ j, j ≤ i → (srow bs j).Ok) → Comp (srow bs i).flags = 0

/-! ## Bounds -/
theorem fld2 (big : Bool) (l : List UInt8) (o : Nat) : fld big l o 2 < 65536 := fld_lt big l o 2
theorem fld4 (big : Bool) (l : List UInt8) (o : Nat) : fld big l o 4 < 4294967296 := fld_lt big l o 4
theorem fld8 (big : Bool) (l : List UInt8) (o : Nat) : fld big l o 8 < 18446744073709551616 := fld_lt big l o 8
theorem fldA (big wide : Bool) (l : List UInt8) (o : Nat) : fld big l o (wd wide 4 8) < 18446744073709551616 := by
  cases wide
  · exact Nat.lt_trans (fld4 big l o) (by omega)
  · exact fld8 big l o
structure HdLt (h : Hd) : Prop where
  type : h.type < 65536
  machine : h.machine < 65536
  version : h.version < 4294967296
  entry : h.entry < 18446744073709551616
  phoff : h.phoff < 18446744073709551616
  shoff : h.shoff < 18446744073709551616
  phes : h.phes < 65536
  phnum : h.phnum < 65536
  shes : h.shes < 65536
  shnum : h.shnum < 65536
  names : h.names < 65536
theorem hd_lt (bs : List UInt8) : HdLt (hd bs) := ⟨fld2 _ _ _, fld2 _ _ _, fld4 _ _ _, fldA _ _ _ _, fldA _ _ _ _, fldA _ _ _ _, fld2 _ _ _, fld2 _ _ _, fld2 _ _ _, fld2 _ _ _, fld2 _ _ _⟩
structure PRow.Lt (p : PRow) : Prop where
  type : p.type < 4294967296
  flags : p.flags < 4294967296
  off : p.off < 18446744073709551616
  vaddr : p.vaddr < 18446744073709551616
  paddr : p.paddr < 18446744073709551616
  filesz : p.filesz < 18446744073709551616
  memsz : p.memsz < 18446744073709551616
  align : p.align < 18446744073709551616
theorem prowAt_lt (big wide : Bool) (bs : List UInt8) (a : Nat) : (prowAt big wide bs a).Lt := by
  have h4 := fun o => fld4 big bs o
  have h8 := fun o => fld8 big bs o
  cases wide
  · exact ⟨h4 _, h4 _, Nat.lt_trans (h4 _) (by omega), Nat.lt_trans (h4 _) (by omega), Nat.lt_trans (h4 _) (by omega), Nat.lt_trans (h4 _) (by omega), Nat.lt_trans (h4 _) (by omega), Nat.lt_trans (h4 _) (by omega)⟩
  · exact ⟨h4 _, h4 _, h8 _, h8 _, h8 _, h8 _, h8 _, h8 _⟩
structure SRow.Lt (p : SRow) : Prop where
  name : p.name < 4294967296
  type : p.type < 4294967296
  flags : p.flags < 4294967296
  addr : p.addr < 18446744073709551616
  off : p.off < 18446744073709551616
  size : p.size < 18446744073709551616
  link : p.link < 4294967296
  info : p.info < 4294967296
  align : p.align < 18446744073709551616
  ents : p.ents < 18446744073709551616
theorem srowAt_lt (big wide : Bool) (bs : List UInt8) (a : Nat) : (srowAt big wide bs a).Lt := by
  have h4 := fun o => fld4 big bs o
  have h8 := fun o => fld8 big bs o
  cases wide
  · exact ⟨h4 _, h4 _, h4 _, Nat.lt_trans (h4 _) (by omega), Nat.lt_trans (h4 _) (by omega), Nat.lt_trans (h4 _) (by omega), h4 _, h4 _, Nat.lt_trans (h4 _) (by omega), Nat.lt_trans (h4 _) (by omega)⟩
  · exact ⟨h4 _, h4 _, Nat.mod_lt _ (by omega), h8 _, h8 _, h8 _, h4 _, h4 _, h8 _, h8 _⟩

/-! ## Pieces of pieces -/
theorem cut_cut {bs : List UInt8} {a n k s : Nat} (h : k + s ≤ n) : ((cut bs a n).drop k).take s = (bs.drop (a + k)).take s := by
  unfold cut
  rw [List.drop_take, List.take_take, List.drop_drop, Nat.min_eq_left (by omega)]
theorem cut_length {bs : List UInt8} {a n : Nat} (h : CutOk bs a n) : (cut bs a n).length = n := by
  unfold cut
  rcases h with rfl | h
  · simp
  · simp; omega
theorem At_cut {bs : List UInt8} {a n k s : Nat} (h : k + s ≤ n) : At ((cut bs a n).map u8v) k ((bs.drop (a + k)).take s) := by
  rw [← cut_cut (a := a) (n := n) h]; exact At_map _ _ _
theorem At_head {bs xs : List UInt8} {n o s : Nat} {v : Value} (hx : xs = (bs.drop 0).take n) (hl : xs.length = n) (h : o + s ≤ n) : At (lay (List.replicate n v) 0 xs) o ((bs.drop o).take s) := by
  rw [lay_all _ _ (by rw [List.length_replicate]; exact hl), hx]
  have := At_cut (bs := bs) (a := 0) h
  rw [Nat.zero_add] at this
  exact this
end Go.Proofs.YtgkjnkhoopcjgaaDoor
/- The readers: the bytes' own ReadAt, a section reader's ReadAt and Read. Conditions: what they read lies in memory; places and lengths fit. -/
namespace Go.Proofs.YtgkjnkhoopcjgaaDoor
open Go.Sx
set_option maxRecDepth 100000

theorem nodup3 {a b c : Nat} (h1 : a ≠ b) (h2 : a ≠ c) (h3 : b ≠ c) : [a, b, c].Nodup := by simp [h1, h2, h3]
/-- The bytes' own reader: nil, or a block whose front the bytes are. -/
def Own (D : List UInt8) (u : Value) (ms : MM) : Prop :=
 (D = [] ∧ u = .slice none 0 0 ∧ ms = []) ∨ ∃ db c pad e fr, db ≠ 1 ∧ D.length ≤ c ∧ c ≤ 9223372036854775807 ∧ u = .slice (some ⟨db, 0, none⟩) D.length c ∧ ms = [(db, .cells (D.map u8v ++ pad).toArray e fr)]

theorem own_out {g : Gx} {ad : Option Addr} {n c off : Nat} {p : Value} {w : World} (h1 : w.heap[1]? = some g.o) (hoff : off ≤ 9223372036854775807) (hn : n ≤ off) :
  Calls Tryd.prog 69 #[.slice ad n c, p, .int .i64 (off : Nat)] w fun e w' => e = .returned (.tuple #[.int .i64 0, g.v]) ∧ Same w w' := by
 refine begins E0 Tryd.func69 rfl Tryd.ntmps69 rfl [(0, _), (1, _), (2, _)] ⟨rfl, rfl, rfl, trivial⟩ [(1, g.o)] ⟨h1, trivial⟩ (by simp) ?_
 refine scR ?_
 iterate 2 refine sqA rfl rfl ?_
 refine sqK [0, 1, 2] rfl ?_
 refine sc_seq ?_
 refine scR ?_
 refine sqM rfl rfl ?_
 refine sq_q (q_decF (q_lss rfl rfl) (by omega)) rfl ?_
 refine sqM rfl rfl ?_
 refine sq_gy rfl rfl rfl ?_
 refine sqM rfl rfl ?_
 refine sq_gy rfl rfl rfl ?_
 refine sqM rfl rfl ?_
 refine sq_gy rfl rfl rfl ?_
 refine sq_q (q_len rfl Tryd.runUnderlying117) rfl ?_
 refine sq_gy rfl rfl rfl ?_
 refine sq_q (q_decT (q_geq rfl rfl) (by omega)) rfl ?_
 refine sqF rfl rfl rfl ?_
 refine sqK [0, 1, 2, 16] rfl ?_
 refine sc_cond_t rfl ?_
 refine sc_seq ?_
 refine sc_draw [0, 1, 2] [] _ mixed (by kernel_rfl) (by kernel_rfl) (List.Subset.refl _) ?_
 refine dr_q rfl rfl (q_load1 rfl Tryd.isAgg86 (i := 0) rfl g.h) ?_
 iterate 2 refine drA rfl rfl rfl ?_
 refine dr_nil ?_
 refine se_seq ?_
 refine scK [6, 7] rfl ?_
 refine sc_ret ?_
 refine se_then_ret ?_
 exact se_end (res2 Tryd.results69 rfl rfl) (fun w' hw => ⟨rfl, hw.same_of⟩)

theorem own_in {g : Gx} {D : List UInt8} {db c pb po m mc off : Nat} {pad l : List Value} {e e2 : TypeId} {fr : Nat × Nat} {w : World} (h1 : w.heap[1]? = some g.o) (hd : w.heap[db]? = some (.cells (D.map u8v ++ pad).toArray e2 fr)) (hb : w.heap[pb]? = some (.cells l.toArray e (0, 0)))
  (hd1 : db ≠ 1) (hpd : pb ≠ db) (hp1 : pb ≠ 1) (hc : D.length ≤ c) (hl : po + m ≤ l.length) (hm : m ≤ mc) (hmc : mc ≤ 9223372036854775807) (hD : D.length ≤ 9223372036854775807) (hin : off < D.length) :
  Calls Tryd.prog 69 #[.slice (some ⟨db, 0, none⟩) D.length c, .slice (some ⟨pb, po, none⟩) m mc, .int .i64 (off : Nat)] w fun en w' =>
   ∃ xs err, RD g D off m xs err ∧ en = .returned (.tuple #[.int .i64 (xs.length : Nat), err]) ∧ Eff (fun k => k = pb) w w' ∧ w'.heap[pb]? = some (.cells (lay l po xs).toArray e (0, 0)) := by
 have hk : ((D.drop off).take m).length = min m (D.length - off) := by simp
 have hnews : ((D.map u8v ++ pad).drop off).take (min m (D.length - off)) = ((D.drop off).take m).map u8v := by
  rw [List.drop_append_of_le_length (by simp; omega), List.take_append_of_le_length (by simp; omega), ← List.map_drop, ← List.map_take]
  congr 1
  rcases Nat.le_total m (D.length - off) with h | h
  ·
   rw [Nat.min_eq_left h]
  ·
   rw [Nat.min_eq_right h, List.take_of_length_le (by simp), List.take_of_length_le (by simpa using h)]
 refine begins (fun k => k = pb) Tryd.func69 rfl Tryd.ntmps69 rfl [(0, _), (1, _), (2, _)] ⟨rfl, rfl, rfl, trivial⟩ [(1, g.o), (db, .cells (D.map u8v ++ pad).toArray e2 fr), (pb, .cells l.toArray e (0, 0))] ⟨h1, hd, hb, trivial⟩ (nodup3 (Ne.symm hd1) (Ne.symm hp1) (Ne.symm hpd)) ?_
 refine scR ?_
 iterate 2 refine sqA rfl rfl ?_
 refine sqK [0, 1, 2] rfl ?_
 refine sc_seq ?_
 refine scR ?_
 refine sqM rfl rfl ?_
 refine sq_q (q_decF (q_lss rfl rfl) (by omega)) rfl ?_
 refine sqM rfl rfl ?_
 refine sq_gy rfl rfl rfl ?_
 refine sqM rfl rfl ?_
 refine sq_gy rfl rfl rfl ?_
 refine sqM rfl rfl ?_
 refine sq_gy rfl rfl rfl ?_
 refine sq_q (q_len rfl Tryd.runUnderlying117) rfl ?_
 refine sq_gy rfl rfl rfl ?_
 refine sq_q (q_decF (q_geq rfl rfl) (by omega)) rfl ?_
 refine sqF rfl rfl rfl ?_
 refine sqK [0, 1, 2, 16] rfl ?_
 refine sc_cond_f rfl ?_
 refine scS ?_
 refine scK [0, 1, 2] rfl ?_
 refine scR ?_
 iterate 3 refine sqM rfl rfl ?_
 refine sq_q (q_slice_l (j := off) (n' := D.length - off) (c' := c - off) rfl rfl Tryd.runUnderlying117 Tryd.sizeOf5 (by omega) (by omega) (by omega) (by omega) (by omega) (by omega)) rfl ?_
 refine sq_m (m_copy (j := 2) (j2 := 1) (k := min m (D.length - off)) (news := ((D.drop off).take m).map u8v) rfl rfl rfl rfl Tryd.underlying22 (i := Tryd.t5) (by kernel_rfl) (by kernel_rfl) (Nat.min_comm _ _) hnews (by simp; omega) (by have := Nat.min_le_left m (D.length - off); omega) (u8v_one _) rfl rfl (fun _ => rfl)) rfl (fun _ _ => ?_)
 refine sqA rfl rfl ?_
 refine sqK [1, 8] rfl ?_
 refine sc_seq ?_
 refine scR ?_
 iterate 2 refine sqM rfl rfl ?_
 refine sq_q (q_len rfl Tryd.runUnderlying22) rfl ?_
 refine sq_split (q_lss rfl rfl) rfl (fun h4_3 => ?_) (fun h4_3 => ?_)
 ·
  simp only [Int.ofNat_lt] at h4_3
  refine sqK [8, 26] rfl ?_
  refine sc_cond_t rfl ?_
  refine sc_seq ?_
  refine sc_draw [0, 1, 2, 3] [] _ mixed (by kernel_rfl) (by kernel_rfl) (List.Subset.refl _) ?_
  refine drM rfl rfl rfl ?_
  refine dr_q rfl rfl (q_load1 rfl Tryd.isAgg86 (i := 0) rfl g.h) ?_
  iterate 2 refine drA rfl rfl rfl ?_
  refine dr_nil ?_
  refine se_seq ?_
  refine scK [6, 7] rfl ?_
  refine sc_ret ?_
  refine se_then_ret ?_
  exact se_end (res2 Tryd.results69 rfl rfl) (fun w' hw => ⟨(D.drop off).take m, g.v, ⟨rfl, .inr ⟨rfl, .inl (by omega)⟩⟩, by rw [hk], hw.eff, by rw [lay, hk]; exact hw.get (i := 2) rfl⟩)
 simp only [Int.ofNat_lt] at h4_3
 refine sqK [8, 26] rfl ?_
 refine sc_cond_f rfl ?_
 refine scS ?_
 refine scK [8] rfl ?_
 refine scR ?_
 refine sqM rfl rfl ?_
 iterate 2 refine sqA rfl rfl ?_
 refine sqK [6, 7] rfl ?_
 refine sc_ret ?_
 exact se_end (res2 Tryd.results69 rfl rfl) (fun w' hw => ⟨(D.drop off).take m, .nilIface, ⟨rfl, .inl ⟨rfl, by omega⟩⟩, by rw [hk], hw.eff, by rw [lay, hk]; exact hw.get (i := 2) rfl⟩)

theorem rc_own {g : Gx} {D : List UInt8} {u : Value} {ms : MM} (h : Own D u ms) (hD : D.length ≤ 9223372036854775807) : RC g 117 u ms (RD g D) := by
 refine ⟨fun _ _ _ _ h => h.err, 69, fun w => by kernel_rfl, Tryd.call69, ?_⟩
 intro w pb po m mc l e off hms h1 hp1 hb hne hl hc hmc hoff
 rcases h with ⟨rfl, rfl, rfl⟩ | ⟨db, c, pad, e2, fr, hdb, hDc, hc9, rfl, rfl⟩
 ·
  refine (own_out (g := g) h1 hoff (Nat.zero_le _)).mono fun en w' ⟨he, hs⟩ => ⟨[], g.v, ⟨by simp, .inr ⟨rfl, by simp; omega⟩⟩, he, hs.eff _, by rw [lay_nil, hs.1]; exact hb⟩
 ·
  by_cases hin : off < D.length
  ·
   exact own_in h1 (hms (db, .cells (D.map u8v ++ pad).toArray e2 fr) (by simp)) hb hdb (fun h => hne (db, .cells (D.map u8v ++ pad).toArray e2 fr) (by simp) h.symm) (Ne.symm hp1) hDc hl hc hmc hD hin
  ·
   refine (own_out (g := g) h1 hoff (by omega)).mono fun en w' ⟨he, hs⟩ => ⟨[], g.v, ⟨?_, .inr ⟨rfl, by simp; omega⟩⟩, he, hs.eff _, by rw [lay_nil, hs.1]; exact hb⟩
   rw [List.drop_of_length_le (by omega)]; simp

theorem size47 {sb base cur lim : Nat} {v nn : Value} {w : World} (hs : w.heap[sb]? = some (srO v base cur lim nn)) (hb : base ≤ lim) (hl : lim ≤ 9223372036854775807) :
  Calls Tryd.prog 47 #[.pointer (some ⟨sb, 0, none⟩)] w fun e w' => e = .returned (.int .i64 ((lim - base : Nat) : Int)) ∧ Same w w' := by
 refine begins E0 Tryd.func47 rfl Tryd.ntmps47 rfl [(0, _)] ⟨rfl, trivial⟩ [(sb, srO v base cur lim nn)] ⟨hs, trivial⟩ (by simp) ?_
 refine scR ?_
 refine sqA rfl rfl ?_
 refine sqK [0] rfl ?_
 refine sc_seq ?_
 refine sc_draw [0, 1, 2, 3, 4, 5, 6, 7, 8, 9] [] _ mixed (by kernel_rfl) (by kernel_rfl) (List.Subset.refl _) ?_
 refine drM rfl rfl rfl ?_
 refine dr_q rfl rfl (q_nil rfl) ?_
 refine dr_q rfl rfl (q_fieldj (j := 3) rfl Tryd.runUnderlying172 rfl Tryd.sizeOf2 rfl) ?_
 refine dr_q rfl rfl (q_load1 rfl Tryd.isAgg2 (i := 0) rfl rfl) ?_
 refine drM rfl rfl rfl ?_
 refine dr_q rfl rfl (q_nil rfl) ?_
 refine dr_q rfl rfl (q_fieldj (j := 1) rfl Tryd.runUnderlying172 rfl Tryd.sizeOf2 rfl) ?_
 refine dr_q rfl rfl (q_load1 rfl Tryd.isAgg2 (i := 0) rfl rfl) ?_
 refine dr_q rfl rfl (q_sub (r := ((lim - base : Nat) : Int)) rfl rfl (w_i64e (by omega) (by omega) (by omega))) ?_
 refine drA rfl rfl rfl ?_
 refine dr_nil ?_
 refine se_seq ?_
 refine scK [2] rfl ?_
 refine sc_ret ?_
 exact se_end (res1 Tryd.results47 rfl) (fun w' hw => ⟨rfl, hw.same_of⟩)

theorem rc_sr {g : Gx} {t : TypeId} {u : Value} {ms : MM} {R : Nat → Nat → List UInt8 → Value → Prop} (h : RC g t u ms R) {sb base cur lim : Nat} {nn : Value} (hbl : base ≤ lim) (hlim : lim ≤ 9223372036854775807) (hnd : (((sb, srO (.iface t u) base cur lim nn) :: (1, g.o) :: ms).map Prod.fst).Nodup) :
  RC g 81 (.pointer (some ⟨sb, 0, none⟩)) ((sb, srO (.iface t u) base cur lim nn) :: ms) (SR g R base lim) := by
 refine ⟨fun _ _ _ _ hR => SR.err h.err hR, 33, fun w => by kernel_rfl, Tryd.call33, ?_⟩
 intro w pb po m mc l e off hms hw1 hp1 hb hne0 hl hc hmc hoff
 have hne : ∀ p ∈ ms, p.1 ≠ pb := fun p hp => hne0 p (by simp [hp])
 have hnd' : (((sb, srO (.iface t u) base cur lim nn) :: (1, g.o) :: (pb, .cells l.toArray e (0, 0)) :: ms).map Prod.fst).Nodup := by
  have h1 := hne0 (sb, srO (.iface t u) base cur lim nn) (by simp)
  have h2 := hp1
  simp only [List.map_cons, List.nodup_cons, List.mem_cons, not_or] at hnd h1 h2 ⊢
  refine ⟨⟨hnd.1.1, h1, hnd.1.2⟩, ⟨h2, hnd.2.1⟩, fun hm => ?_, hnd.2.2⟩
  obtain ⟨p, hp, hpe⟩ := List.mem_map.1 hm
  exact hne p hp hpe
 refine enter (E := fun k => k = pb) Tryd.func33 rfl Tryd.ntmps33 (Nat.le_of_ble_eq_true rfl) [(0, _), (1, _), (2, _)] (AOk.get («as» := [_, _, _]) ⟨rfl, rfl, rfl, trivial⟩) ((sb, srO (.iface t u) base cur lim nn) :: (1, g.o) :: (pb, .cells l.toArray e (0, 0)) :: ms) ?_ hnd' ?_
 ·
  intro p hp
  rcases List.mem_cons.1 hp with rfl | hp
  ·
   exact hms _ (by simp)
  rcases List.mem_cons.1 hp with rfl | hp
  ·
   exact hw1
  rcases List.mem_cons.1 hp with rfl | hp
  ·
   exact hb
  exact hms p (by simp [hp])
 refine scR ?_
 iterate 2 refine sqA rfl rfl ?_
 refine sqK [0, 1, 2] rfl ?_
 refine sc_seq ?_
 refine scR ?_
 refine sqM rfl rfl ?_
 refine sq_q (q_decF (q_lss rfl rfl) (by omega)) rfl ?_
 refine sqM rfl rfl ?_
 refine sq_gy rfl rfl rfl ?_
 refine sqM rfl rfl ?_
 refine sq_gy rfl rfl rfl ?_
 refine sqM rfl rfl ?_
 refine sq_gy rfl rfl rfl ?_
 refine sq_q (q_call (args1 rfl) Tryd.call47 (fun w hw => size47 (hw.get (i := 0) rfl) hbl hlim)) rfl ?_
 refine sq_gy rfl rfl rfl ?_
 refine sq_split (q_geq rfl rfl) rfl (fun h1_6 => ?_) (fun h1_6 => ?_)
 ·
  have hge : lim - base ≤ off := by omega
  refine sqF rfl rfl rfl ?_
  refine sqK [0, 1, 2, 16] rfl ?_
  refine sc_cond_t rfl ?_
  refine sc_seq ?_
  refine sc_draw [0, 1, 2] [] _ mixed (by kernel_rfl) (by kernel_rfl) (List.Subset.refl _) ?_
  refine dr_q rfl rfl (q_load1 rfl Tryd.isAgg86 (i := 1) rfl g.h) ?_
  iterate 2 refine drA rfl rfl rfl ?_
  refine dr_nil ?_
  refine se_seq ?_
  refine scK [6, 7] rfl ?_
  refine sc_ret ?_
  refine se_then_ret ?_
  exact se_end (res2 Tryd.results33 rfl rfl) (fun w' hw => ⟨[], _, .inl ⟨hge, rfl, rfl⟩, rfl, hw.eff, by rw [lay_nil]; exact hw.get (i := 2) rfl⟩)
 have hlt : off < lim - base := by omega
 refine sqF rfl rfl rfl ?_
 refine sqK [0, 1, 2, 16] rfl ?_
 refine sc_cond_f rfl ?_
 refine scS ?_
 refine scK [0, 1, 2] rfl ?_
 refine scR ?_
 iterate 2 refine sqM rfl rfl ?_
 refine sq_q (q_nil rfl) rfl ?_
 refine sq_q (q_fieldj (j := 1) rfl Tryd.runUnderlying172 rfl Tryd.sizeOf2 rfl) rfl ?_
 refine sq_q (q_load1 rfl Tryd.isAgg2 (i := 0) rfl rfl) rfl ?_
 refine sq_q (q_add (a := (off : Int)) (b := (base : Int)) (r := ((off + base : Nat) : Int)) rfl rfl (w_i64e (by omega) (by omega) (by omega))) rfl ?_
 refine sqA rfl rfl ?_
 refine sqK [0, 1, 2] rfl ?_
 refine sc_seq ?_
 refine scR ?_
 refine sqM rfl rfl ?_
 refine sq_q (q_nil rfl) rfl ?_
 refine sq_q (q_fieldj (j := 3) rfl Tryd.runUnderlying172 rfl Tryd.sizeOf2 rfl) rfl ?_
 refine sq_q (q_load1 rfl Tryd.isAgg2 (i := 0) rfl rfl) rfl ?_
 refine sqM rfl rfl ?_
 refine sq_q (q_sub (r := ((lim - (off + base) : Nat) : Int)) rfl rfl (w_i64e (by omega) (by omega) (by omega))) rfl ?_
 refine sqA rfl rfl ?_
 refine sqKR [0, 1, 2, 8] rfl ?_
 refine sqM rfl rfl ?_
 refine sq_q (q_len rfl Tryd.runUnderlying22) rfl ?_
 refine sqM rfl rfl ?_
 refine sq_split (q_gtr rfl rfl) rfl (fun h5_3 => ?_) (fun h5_3 => ?_)
 ·
  have hm1 : lim - base - off < m := by omega
  refine sqK [0, 1, 2, 8, 33] rfl ?_
  refine sc_cond_t rfl ?_
  refine scR ?_
  iterate 2 refine sqM rfl rfl ?_
  refine sq_q (q_slice_lh (j := po) (n' := lim - base - off) (c' := mc) rfl rfl rfl Tryd.runUnderlying22 Tryd.sizeOf5 (by omega) (by omega) (by omega) (by omega) (by simp) (by omega) (by simp)) rfl ?_
  refine sqA rfl rfl ?_
  refine sqKR [0, 1, 2] rfl ?_
  refine sqM rfl rfl ?_
  refine sq_q (q_nil rfl) rfl ?_
  refine sq_q (q_fieldj (j := 0) rfl Tryd.runUnderlying172 rfl Tryd.sizeOf80 rfl) rfl ?_
  refine sq_q (q_load1 rfl Tryd.isAgg80 (i := 0) rfl rfl) rfl ?_
  iterate 2 refine sqM rfl rfl ?_
  refine sq_m (h.inv (mm' := fun xs => (sb, srO (.iface t u) base cur lim nn) :: (1, g.o) :: (pb, .cells (lay l po xs).toArray e (0, 0)) :: ms) (i := 2) (off := off + base) (m := lim - base - off) rfl rfl rfl rfl (fun _ h => by simp [h]) (by simp) hp1 hne (by omega) (by omega) hmc (by omega) (fun _ => rfl) (fun _ => rfl)) rfl (fun z hz => ?_)
  obtain ⟨xs, e0, N2⟩ := z
  obtain ⟨hR, hN⟩ := hz
  refine sqM rfl rfl ?_
  iterate 2 refine sq_q (q_extract rfl rfl) rfl ?_
  iterate 2 refine sqA rfl rfl ?_
  rcases (h.err _ _ _ _ hR).2 with ⟨rfl, hx⟩ | rfl | ⟨rfl, t2, u2, rfl⟩
  ·
   have _tok := trivial
   refine sqK [6, 7] rfl ?_
   refine sc_seq ?_
   refine scR ?_
   refine sqM rfl rfl ?_
   refine sq_q (q_nil_eql_nil rfl Tryd.runUnderlying86) rfl ?_
   refine sqK [6, 7, 48] rfl ?_
   refine sc_cond_t rfl ?_
   refine sc_region ?_
   refine sq_q (q_load1 rfl Tryd.isAgg86 (i := 1) rfl g.h) rfl ?_
   refine sqA rfl rfl ?_
   refine sqKR [6, 7] rfl ?_
   iterate 2 refine sqM rfl rfl ?_
   iterate 2 refine sqA rfl rfl ?_
   refine sqK [6, 7] rfl ?_
   refine sc_ret ?_
   refine se_then_ret ?_
   first | exact se_end (res2 Tryd.results33 rfl rfl) (fun w' hw => ⟨xs, _, .inr (.inr ⟨hlt, hm1, _, hR, .inl ⟨rfl, rfl⟩⟩), rfl, hw.eff, hw.get (i := 2) rfl⟩) | exact se_end (res2 Tryd.results33 rfl rfl) (fun w' hw => ⟨xs, _, .inr (.inr ⟨hlt, hm1, _, hR, .inr ⟨rfl, .inl rfl⟩⟩), rfl, hw.eff, hw.get (i := 2) rfl⟩) | exact se_end (res2 Tryd.results33 rfl rfl) (fun w' hw => ⟨[], _, .inr (.inr ⟨hlt, hm1, _, hR, .inr ⟨rfl, .inr ⟨rfl, _, _, rfl⟩⟩⟩), rfl, hw.eff, hw.get (i := 2) rfl⟩)
  ·
   have _tok := trivial
   refine sqK [6, 7] rfl ?_
   refine sc_seq ?_
   refine scR ?_
   refine sqM rfl rfl ?_
   refine sq_q (q_iface_eql_nil rfl rfl Tryd.runUnderlying86) rfl ?_
   refine sqK [6, 7, 48] rfl ?_
   refine sc_cond_f rfl ?_
   refine scS ?_
   refine scK [6, 7] rfl ?_
   refine scR ?_
   iterate 2 refine sqM rfl rfl ?_
   iterate 2 refine sqA rfl rfl ?_
   refine sqK [6, 7] rfl ?_
   refine sc_ret ?_
   refine se_then_ret ?_
   first | exact se_end (res2 Tryd.results33 rfl rfl) (fun w' hw => ⟨xs, _, .inr (.inr ⟨hlt, hm1, _, hR, .inl ⟨rfl, rfl⟩⟩), rfl, hw.eff, hw.get (i := 2) rfl⟩) | exact se_end (res2 Tryd.results33 rfl rfl) (fun w' hw => ⟨xs, _, .inr (.inr ⟨hlt, hm1, _, hR, .inr ⟨rfl, .inl rfl⟩⟩), rfl, hw.eff, hw.get (i := 2) rfl⟩) | exact se_end (res2 Tryd.results33 rfl rfl) (fun w' hw => ⟨[], _, .inr (.inr ⟨hlt, hm1, _, hR, .inr ⟨rfl, .inr ⟨rfl, _, _, rfl⟩⟩⟩), rfl, hw.eff, hw.get (i := 2) rfl⟩)
  refine sqK [6, 7] rfl ?_
  refine sc_seq ?_
  refine scR ?_
  refine sqM rfl rfl ?_
  refine sq_q (q_iface_eql_nil rfl rfl Tryd.runUnderlying86) rfl ?_
  refine sqK [6, 7, 48] rfl ?_
  refine sc_cond_f rfl ?_
  refine scS ?_
  refine scK [6, 7] rfl ?_
  refine scR ?_
  iterate 2 refine sqM rfl rfl ?_
  iterate 2 refine sqA rfl rfl ?_
  refine sqK [6, 7] rfl ?_
  refine sc_ret ?_
  refine se_then_ret ?_
  first | exact se_end (res2 Tryd.results33 rfl rfl) (fun w' hw => ⟨xs, _, .inr (.inr ⟨hlt, hm1, _, hR, .inl ⟨rfl, rfl⟩⟩), rfl, hw.eff, hw.get (i := 2) rfl⟩) | exact se_end (res2 Tryd.results33 rfl rfl) (fun w' hw => ⟨xs, _, .inr (.inr ⟨hlt, hm1, _, hR, .inr ⟨rfl, .inl rfl⟩⟩), rfl, hw.eff, hw.get (i := 2) rfl⟩) | exact se_end (res2 Tryd.results33 rfl rfl) (fun w' hw => ⟨[], _, .inr (.inr ⟨hlt, hm1, _, hR, .inr ⟨rfl, .inr ⟨rfl, _, _, rfl⟩⟩⟩), rfl, hw.eff, hw.get (i := 2) rfl⟩)
 have hm1 : m ≤ lim - base - off := by omega
 refine sqK [0, 1, 2, 8, 33] rfl ?_
 refine sc_cond_f rfl ?_
 refine scS ?_
 refine scK [0, 1, 2] rfl ?_
 refine scR ?_
 refine sqM rfl rfl ?_
 refine sq_q (q_nil rfl) rfl ?_
 refine sq_q (q_fieldj (j := 0) rfl Tryd.runUnderlying172 rfl Tryd.sizeOf80 rfl) rfl ?_
 refine sq_q (q_load1 rfl Tryd.isAgg80 (i := 0) rfl rfl) rfl ?_
 iterate 2 refine sqM rfl rfl ?_
 refine sq_m (h.inv (mm' := fun xs => (sb, srO (.iface t u) base cur lim nn) :: (1, g.o) :: (pb, .cells (lay l po xs).toArray e (0, 0)) :: ms) (i := 2) (off := off + base) (m := m) rfl rfl rfl rfl (fun _ h => by simp [h]) (by simp) hp1 hne (by omega) (by omega) hmc (by omega) (fun _ => rfl) (fun _ => rfl)) rfl (fun z hz => ?_)
 obtain ⟨xs, e0, N2⟩ := z
 obtain ⟨hR, hN⟩ := hz
 iterate 2 refine sq_q (q_extract rfl rfl) rfl ?_
 iterate 2 refine sqA rfl rfl ?_
 refine sqK [6, 7] rfl ?_
 refine sc_ret ?_
 exact se_end (res2 Tryd.results33 rfl rfl) (fun w' hw => ⟨xs, _, .inr (.inl ⟨hlt, hm1, hR⟩), rfl, hw.eff, hw.get (i := 2) rfl⟩)

end Go.Proofs.YtgkjnkhoopcjgaaDoor
/- A section reader's Read, ReadAtLeast and ReadFull of it. Conditions: what they read lies in memory; places and lengths fit. -/
namespace Go.Proofs.YtgkjnkhoopcjgaaDoor
open Go.Sx
set_option maxRecDepth 100000

/-- What Read gives at a place. -/
def TR (g : Gx) (R : Nat → Nat → List UInt8 → Value → Prop) (lim cur m : Nat) (xs : List UInt8) (err : Value) : Prop :=
 (lim ≤ cur ∧ xs = [] ∧ err = g.v) ∨ (cur < lim ∧ R cur (min m (lim - cur)) xs err)
theorem TR.err {g : Gx} {t : TypeId} {u : Value} {ms : MM} {R : Nat → Nat → List UInt8 → Value → Prop} (h : RC g t u ms R) {lim cur m : Nat} {xs : List UInt8} {e : Value} (ht : TR g R lim cur m xs e) :
  xs.length ≤ m ∧ (xs ≠ [] → cur + xs.length ≤ lim) ∧ ((e = .nilIface ∧ xs.length = min m (lim - cur)) ∨ e = g.v ∨ (xs = [] ∧ ∃ t u, e = .iface t u)) := by
 rcases ht with ⟨_, rfl, rfl⟩ | ⟨h1, h2⟩
 ·
  exact ⟨Nat.zero_le _, fun h => absurd rfl h, .inr (.inl rfl)⟩
 ·
  have := h.err _ _ _ _ h2
  exact ⟨by omega, fun _ => by omega, this.2⟩

theorem nodup_at {a b : Nat} {r : List Nat} (i j : Nat) {l : List Nat} (h : l.Nodup) (hi : l[i]? = some a) (hj : l[j]? = some b) (hij : i < j) : a ≠ b := by
 obtain ⟨hi1, hi2⟩ := List.getElem?_eq_some_iff.1 hi
 obtain ⟨hj1, hj2⟩ := List.getElem?_eq_some_iff.1 hj
 intro he
 exact List.pairwise_iff_getElem.1 h i j hi1 hj1 hij (by rw [hi2, hj2, he])
theorem read67 {g : Gx} {t : TypeId} {u : Value} {ms : MM} {R : Nat → Nat → List UInt8 → Value → Prop} (h : RC g t u ms R) {sb base cur lim : Nat} {nn : Value} {pb po m mc : Nat} {l : List Value} {e : TypeId} {w : World} (hlim : lim ≤ 9223372036854775807) (hcur : cur ≤ 9223372036854775807)
  (hnd : (((sb, srO (.iface t u) base cur lim nn) :: (1, g.o) :: (pb, .cells l.toArray e (0, 0)) :: ms).map Prod.fst).Nodup) (hms : Has ((sb, srO (.iface t u) base cur lim nn) :: (1, g.o) :: (pb, .cells l.toArray e (0, 0)) :: ms) w) (hne : ∀ p ∈ ms, p.1 ≠ pb) (hl : po + m ≤ l.length) (hm : m ≤ mc) (hmc : mc ≤ 9223372036854775807) :
  Calls Tryd.prog 67 #[.pointer (some ⟨sb, 0, none⟩), .slice (some ⟨pb, po, none⟩) m mc] w fun en w' =>
   ∃ xs err, TR g R lim cur m xs err ∧ en = .returned (.tuple #[.int .i64 (xs.length : Nat), err]) ∧ Eff (fun k => k = sb ∨ k = pb) w w' ∧ w'.heap[sb]? = some (srO (.iface t u) base (cur + xs.length) lim nn) ∧ w'.heap[pb]? = some (.cells (lay l po xs).toArray e (0, 0)) := by
 have hp1 : 1 ≠ pb := nodup_at (r := []) 1 2 hnd rfl rfl (by omega)
 refine enter (E := fun k => k = sb ∨ k = pb) Tryd.func67 rfl Tryd.ntmps67 (Nat.le_of_ble_eq_true rfl) [(0, _), (1, _)] (AOk.get («as» := [_, _]) ⟨rfl, rfl, trivial⟩) ((sb, srO (.iface t u) base cur lim nn) :: (1, g.o) :: (pb, .cells l.toArray e (0, 0)) :: ms) hms hnd ?_
 refine scR ?_
 iterate 2 refine sqA rfl rfl ?_
 refine sqK [0, 1] rfl ?_
 iterate 2 refine sc_seq ?_
 refine sc_draw [0, 1, 2, 3, 4, 5, 6, 7, 8] [] _ mixed (by kernel_rfl) (by kernel_rfl) (List.Subset.refl _) ?_
 refine drM rfl rfl rfl ?_
 refine dr_q rfl rfl (q_nil rfl) ?_
 refine dr_q rfl rfl (q_fieldj (j := 2) rfl Tryd.runUnderlying172 rfl Tryd.sizeOf2 rfl) ?_
 refine dr_q rfl rfl (q_load1 rfl Tryd.isAgg2 (i := 0) rfl rfl) ?_
 refine drM rfl rfl rfl ?_
 refine dr_q rfl rfl (q_nil rfl) ?_
 refine dr_q rfl rfl (q_fieldj (j := 3) rfl Tryd.runUnderlying172 rfl Tryd.sizeOf2 rfl) ?_
 refine dr_q rfl rfl (q_load1 rfl Tryd.isAgg2 (i := 0) rfl rfl) ?_
 refine dr_q rfl rfl (q_geq rfl rfl) ?_
 refine dr_nil ?_
 refine se_seq ?_
 refine scK [0, 1, 15] rfl ?_
 refine sc_cond rfl (fun h1 => ?_) (fun h1 => ?_)
 ·
  simp only [decide_eq_true_eq, Int.ofNat_le] at h1
  refine sc_seq ?_
  refine sc_draw [0, 1, 2] [] _ mixed (by kernel_rfl) (by kernel_rfl) (List.Subset.refl _) ?_
  refine dr_q rfl rfl (q_load1 rfl Tryd.isAgg86 (i := 1) rfl g.h) ?_
  iterate 2 refine drA rfl rfl rfl ?_
  refine dr_nil ?_
  refine se_seq ?_
  refine scK [4, 5] rfl ?_
  refine sc_ret ?_
  refine se_then_ret ?_
  exact se_end (res2 Tryd.results67 rfl rfl) (fun w' hw => ⟨[], _, .inl ⟨h1, rfl, rfl⟩, rfl, hw.eff, hw.get (i := 0) rfl, by rw [lay_nil]; exact hw.get (i := 2) rfl⟩)
 simp only [decide_eq_false_iff_not, Int.ofNat_le, Nat.not_le] at h1
 have hlt : cur < lim := h1
 refine scS ?_
 refine scK [0, 1] rfl ?_
 iterate 2 refine sc_seq ?_
 refine sc_draw [0, 1, 2, 3, 4, 5, 6, 7, 8, 9] [] _ mixed (by kernel_rfl) (by kernel_rfl) (List.Subset.refl _) ?_
 refine drM rfl rfl rfl ?_
 refine dr_q rfl rfl (q_nil rfl) ?_
 refine dr_q rfl rfl (q_fieldj (j := 3) rfl Tryd.runUnderlying172 rfl Tryd.sizeOf2 rfl) ?_
 refine dr_q rfl rfl (q_load1 rfl Tryd.isAgg2 (i := 0) rfl rfl) ?_
 refine drM rfl rfl rfl ?_
 refine dr_q rfl rfl (q_nil rfl) ?_
 refine dr_q rfl rfl (q_fieldj (j := 2) rfl Tryd.runUnderlying172 rfl Tryd.sizeOf2 rfl) ?_
 refine dr_q rfl rfl (q_load1 rfl Tryd.isAgg2 (i := 0) rfl rfl) ?_
 refine dr_q rfl rfl (q_sub (r := ((lim - cur : Nat) : Int)) rfl rfl (w_i64e (by omega) (by omega) (by omega))) ?_
 refine drA rfl rfl rfl ?_
 refine dr_nil ?_
 refine se_seq ?_
 refine scK [0, 1, 6] rfl ?_
 refine scR ?_
 refine sqM rfl rfl ?_
 refine sq_q (q_len rfl Tryd.runUnderlying22) rfl ?_
 refine sqM rfl rfl ?_
 refine sq_split (q_gtr rfl rfl) rfl (fun h4_3 => ?_) (fun h4_3 => ?_)
 ·
  have hmin : min m (lim - cur) = lim - cur := by omega
  refine sqK [0, 1, 6, 29] rfl ?_
  refine sc_cond_t rfl ?_
  refine sc_region ?_
  iterate 2 refine sqM rfl rfl ?_
  refine sq_q (q_slice_lh (j := po) (n' := lim - cur) (c' := mc) rfl rfl rfl Tryd.runUnderlying22 Tryd.sizeOf5 (by omega) (by omega) (by omega) (by omega) (by simp) (by omega) (by simp)) rfl ?_
  refine sqA rfl rfl ?_
  refine sqK [0, 1] rfl ?_
  refine sc_seq ?_
  refine sc_draw [0, 1, 2, 3, 4, 5, 6, 7, 8, 9, 10, 11, 12, 13, 14, 15, 16] [11] [(sb, srO (.iface t u) base cur lim nn)] mixed (by kernel_rfl) (by kernel_rfl) (fun _ h => by simp at h; simp [h]) ?_
  refine drM rfl rfl rfl ?_
  refine dr_q rfl rfl (q_nil rfl) ?_
  refine dr_q rfl rfl (q_fieldj (j := 0) rfl Tryd.runUnderlying172 rfl Tryd.sizeOf80 rfl) ?_
  refine dr_q rfl rfl (q_load1 rfl Tryd.isAgg80 (i := 0) rfl rfl) ?_
  iterate 2 refine drM rfl rfl rfl ?_
  refine dr_q rfl rfl (q_nil rfl) ?_
  refine dr_q rfl rfl (q_fieldj (j := 2) rfl Tryd.runUnderlying172 rfl Tryd.sizeOf2 rfl) ?_
  refine dr_q rfl rfl (q_load1 rfl Tryd.isAgg2 (i := 0) rfl rfl) ?_
  refine dr_q rfl rfl (q_nili rfl) ?_
  refine drM rfl rfl rfl ?_
  refine dr_m rfl rfl (h.inv (mm' := fun xs => (sb, srO (.iface t u) base cur lim nn) :: (1, g.o) :: (pb, .cells (lay l po xs).toArray e (0, 0)) :: ms) (i := 2) (off := cur) (m := min m (lim - cur)) rfl (by rw [hmin]; rfl) rfl rfl (fun _ h => by simp [h]) (by simp) hp1 hne (by omega) (by omega) hmc (by omega) (fun _ => rfl) (fun _ => .inr rfl)) (fun _ _ p hp => by simp at hp; simp [hp]) (fun z hz => ?_)
  refine drM rfl rfl rfl ?_
  iterate 2 refine dr_q rfl rfl (q_extract rfl rfl) ?_
  iterate 2 refine drA rfl rfl rfl ?_
  refine dr_nil ?_
  refine se_seq ?_
  refine scK [0, 4, 5] rfl ?_
  refine scR ?_
  refine sqM rfl rfl ?_
  refine sq_q (q_nil rfl) rfl ?_
  refine sq_q (q_fieldj (j := 2) rfl Tryd.runUnderlying172 rfl Tryd.sizeOf2 rfl) rfl ?_
  refine sq_q (q_load1 rfl Tryd.isAgg2 (i := 0) rfl rfl) rfl ?_
  refine sqM rfl rfl ?_
  refine sq_q (q_add (r := ((cur + z.xs.length : Nat) : Int)) rfl rfl (w_i64e (by omega) (by omega) (by have := (h.err _ _ _ _ hz.1).1; omega))) rfl ?_
  refine sq_q (q_nil rfl) rfl ?_
  refine sq_q (q_fieldj (j := 2) rfl Tryd.runUnderlying172 rfl Tryd.sizeOf2 rfl) rfl ?_
  refine sq_m0 (m_store rfl rfl Tryd.sizeOf2 rfl (i := 0) rfl rfl rfl (fun _ => .inl rfl)) (fun _ _ => ?_)
  refine sqK [4, 5] rfl ?_
  refine sc_ret ?_
  exact se_end (res2 Tryd.results67 rfl rfl) (fun w' hw => ⟨z.xs, z.err, .inr ⟨hlt, hz.1⟩, rfl, hw.eff, hw.get (i := 0) rfl, hw.get (i := 2) rfl⟩)
 have hmin : min m (lim - cur) = m := by omega
 refine sqK [0, 1, 6, 29] rfl ?_
 refine sc_cond_f rfl ?_
 refine scS ?_
 refine scK [0, 1] rfl ?_
 refine sc_seq ?_
 refine sc_draw [0, 1, 2, 3, 4, 5, 6, 7, 8, 9, 10, 11, 12, 13, 14, 15, 16] [11] [(sb, srO (.iface t u) base cur lim nn)] mixed (by kernel_rfl) (by kernel_rfl) (fun _ h => by simp at h; simp [h]) ?_
 refine drM rfl rfl rfl ?_
 refine dr_q rfl rfl (q_nil rfl) ?_
 refine dr_q rfl rfl (q_fieldj (j := 0) rfl Tryd.runUnderlying172 rfl Tryd.sizeOf80 rfl) ?_
 refine dr_q rfl rfl (q_load1 rfl Tryd.isAgg80 (i := 0) rfl rfl) ?_
 iterate 2 refine drM rfl rfl rfl ?_
 refine dr_q rfl rfl (q_nil rfl) ?_
 refine dr_q rfl rfl (q_fieldj (j := 2) rfl Tryd.runUnderlying172 rfl Tryd.sizeOf2 rfl) ?_
 refine dr_q rfl rfl (q_load1 rfl Tryd.isAgg2 (i := 0) rfl rfl) ?_
 refine dr_q rfl rfl (q_nili rfl) ?_
 refine drM rfl rfl rfl ?_
 refine dr_m rfl rfl (h.inv (mm' := fun xs => (sb, srO (.iface t u) base cur lim nn) :: (1, g.o) :: (pb, .cells (lay l po xs).toArray e (0, 0)) :: ms) (i := 2) (off := cur) (m := min m (lim - cur)) rfl (by rw [hmin]; rfl) rfl rfl (fun _ h => by simp [h]) (by simp) hp1 hne (by omega) (by omega) hmc (by omega) (fun _ => rfl) (fun _ => .inr rfl)) (fun _ _ p hp => by simp at hp; simp [hp]) (fun z hz => ?_)
 refine drM rfl rfl rfl ?_
 iterate 2 refine dr_q rfl rfl (q_extract rfl rfl) ?_
 iterate 2 refine drA rfl rfl rfl ?_
 refine dr_nil ?_
 refine se_seq ?_
 refine scK [0, 4, 5] rfl ?_
 refine scR ?_
 refine sqM rfl rfl ?_
 refine sq_q (q_nil rfl) rfl ?_
 refine sq_q (q_fieldj (j := 2) rfl Tryd.runUnderlying172 rfl Tryd.sizeOf2 rfl) rfl ?_
 refine sq_q (q_load1 rfl Tryd.isAgg2 (i := 0) rfl rfl) rfl ?_
 refine sqM rfl rfl ?_
 refine sq_q (q_add (r := ((cur + z.xs.length : Nat) : Int)) rfl rfl (w_i64e (by omega) (by omega) (by have := (h.err _ _ _ _ hz.1).1; omega))) rfl ?_
 refine sq_q (q_nil rfl) rfl ?_
 refine sq_q (q_fieldj (j := 2) rfl Tryd.runUnderlying172 rfl Tryd.sizeOf2 rfl) rfl ?_
 refine sq_m0 (m_store rfl rfl Tryd.sizeOf2 rfl (i := 0) rfl rfl rfl (fun _ => .inl rfl)) (fun _ _ => ?_)
 refine sqK [4, 5] rfl ?_
 refine sc_ret ?_
 exact se_end (res2 Tryd.results67 rfl rfl) (fun w' hw => ⟨z.xs, z.err, .inr ⟨hlt, hz.1⟩, rfl, hw.eff, hw.get (i := 0) rfl, hw.get (i := 2) rfl⟩)

/-- What ReadFull gives at a place. -/
def FR (g : Gx) (R : Nat → Nat → List UInt8 → Value → Prop) (lim cur m : Nat) (xs : List UInt8) (err : Value) : Prop :=
 ((err = .nilIface ∧ xs.length = m) ∨ (xs.length < m ∧ ∃ t u, err = .iface t u)) ∧ (0 < m → ∃ e, TR g R lim cur m xs e)

/-- A Read through an interface. -/
theorem read_inv {g : Gx} {t : TypeId} {u : Value} {ms : MM} {R : Nat → Nat → List UInt8 → Value → Prop} (h : RC g t u ms R) {w0 : World} {E : Nat → Prop} {fm : FM} {N : Nat} {x p : Operand} {ts : Array TypeId} {sb base cur lim pb po m mc : Nat} {nn : Value} {l : List Value} {e : TypeId} {mr : MM}
  {d : Option Nat} {ty : TypeId} {pos : String} {after : Array Edge} {gd : Option (Nat × Bool)}
  (hlim : lim ≤ 9223372036854775807) (hcur : cur ≤ 9223372036854775807) (hnd : ((sb :: 1 :: pb :: ms.map Prod.fst)).Nodup) (hs : ∀ p ∈ ms, p ∈ mr) (h1 : (1, g.o) ∈ mr) (hr : ∀ p ∈ mr, p.1 ≠ sb ∧ p.1 ≠ pb) (hmr : (mr.map Prod.fst).Nodup)
  (hx : fm.ev x = some (.iface 81 (.pointer (some ⟨sb, 0, none⟩)))) (hp : fm.ev p = some (.slice (some ⟨pb, po, none⟩) m mc)) (hl : po + m ≤ l.length) (hm : m ≤ mc) (hmc : mc ≤ 9223372036854775807) (hE : ∀ k, k = sb ∨ k = pb → k < w0.heap.size → E k) :
  Main Tryd.prog w0 E fm N ((sb, srO (.iface t u) base cur lim nn) :: (pb, .cells l.toArray e (0, 0)) :: mr) ⟨d, .call { callee := .invoke x "Read", args := #[p], argTypes := ts }, ty, pos, after, gd⟩ (fun z : Rx => .tuple #[.int .i64 (z.xs.length : Nat), z.err]) (fun z => z.N)
   (fun z => (sb, srO (.iface t u) base (cur + z.xs.length) lim nn) :: (pb, .cells (lay l po z.xs).toArray e (0, 0)) :: mr) (fun z => TR g R lim cur m z.xs z.err ∧ N ≤ z.N) := by
 have hsp : sb ≠ pb := fun he => by subst he; simp at hnd
 refine m_invoke (xs := [p]) (vs := [.slice (some ⟨pb, po, none⟩) m mc]) hx (fun ρ hρ => by simp [hρ _ _ hp]) (f := 67) (r := .pointer (some ⟨sb, 0, none⟩)) (fun w => by kernel_rfl) Tryd.call67 fun w hw => ?_
 refine Calls.mono (read67 h (sb := sb) (base := base) (cur := cur) (lim := lim) (nn := nn) (pb := pb) (po := po) (m := m) (mc := mc) (l := l) (e := e) hlim hcur hnd ?_ (fun q hq => (hr q (hs q hq)).2) hl hm hmc) fun en w' ⟨xs, err, hR, hen, he, h2, h3⟩ => ?_
 ·
  intro q hq
  rcases List.mem_cons.1 hq with rfl | hq
  ·
   exact hw.has _ (by simp)
  rcases List.mem_cons.1 hq with rfl | hq
  ·
   exact hw.has _ (by simp [h1])
  rcases List.mem_cons.1 hq with rfl | hq
  ·
   exact hw.has _ (by simp)
  ·
   exact hw.has _ (by simp [hs q hq])
 ·
  refine ⟨⟨xs, err, w'.heap.size⟩, ⟨hR, by rw [← hw.size]; exact he.size⟩, hen, ?_⟩
  refine hw.call he hE mr [(sb, _), (pb, _)] (fun q hq => by simp [hq]) (fun q hq hk => by have := hr q hq; rcases hk with hk | hk <;> simp [hk] at this) ?_ ?_
  ·
   intro q hq
   rcases List.mem_cons.1 hq with rfl | hq
   ·
    exact h2
   ·
    have := List.mem_singleton.1 hq; subst this; exact h3
  ·
   simp only [List.cons_append, List.nil_append, List.map_cons, List.nodup_cons, List.mem_cons, not_or]
   refine ⟨⟨hsp, fun hq => ?_⟩, fun hq => ?_, hmr⟩
   ·
    obtain ⟨q, hq, hqe⟩ := List.mem_map.1 hq
    exact (hr q hq).1 hqe
   ·
    obtain ⟨q, hq, hqe⟩ := List.mem_map.1 hq
    exact (hr q hq).2 hqe

theorem least48 {g gu : Gx} {t : TypeId} {u : Value} {ms : MM} {R : Nat → Nat → List UInt8 → Value → Prop} (h : RC g t u ms R) {sb base cur lim : Nat} {nn : Value} {pb m mc : Nat} {l : List Value} {e : TypeId} {w : World} (hlim : lim ≤ 9223372036854775807) (hcur : cur ≤ 9223372036854775807)
  (hfull : ∀ xs e, TR g R lim cur m xs e → e = .nilIface → xs.length = m) (hnd0 : (((sb, srO (.iface t u) base cur lim nn) :: (pb, .cells l.toArray e (0, 0)) :: (1, g.o) :: (0, gu.o) :: ms).map Prod.fst).Nodup) (hms : Has ((sb, srO (.iface t u) base cur lim nn) :: (pb, .cells l.toArray e (0, 0)) :: (1, g.o) :: (0, gu.o) :: ms) w) (hl : m ≤ l.length) (hm : m ≤ mc) (hmc : mc ≤ 9223372036854775807) (hpos : 0 < m) :
  Calls Tryd.prog 48 #[.iface 81 (.pointer (some ⟨sb, 0, none⟩)), .slice (some ⟨pb, 0, none⟩) m mc, .int .i64 (m : Nat)] w fun en w' =>
   ∃ xs err, FR g R lim cur m xs err ∧ en = .returned (.tuple #[.int .i64 (xs.length : Nat), err]) ∧ Eff (fun k => k = sb ∨ k = pb) w w' ∧ w'.heap[sb]? = some (srO (.iface t u) base (cur + xs.length) lim nn) ∧ w'.heap[pb]? = some (.cells (lay l 0 xs).toArray e (0, 0)) := by
 have hnd : (sb :: 1 :: pb :: ms.map Prod.fst).Nodup := by
  have h1 := hnd0
  simp only [List.map_cons, List.nodup_cons, List.mem_cons, not_or] at h1 ⊢
  obtain ⟨⟨a1, a2, a3, a4⟩, ⟨b1, b2, b3⟩, ⟨c1, c2⟩, d1, d2⟩ := h1
  exact ⟨⟨a2, a1, a4⟩, ⟨Ne.symm b1, c2⟩, b3, d2⟩
 have hsr : ∀ p ∈ ms, p ∈ (1, g.o) :: (0, gu.o) :: ms := fun p hp => by simp [hp]
 have hmrn : (((1, g.o) :: (0, gu.o) :: ms).map Prod.fst).Nodup := (List.nodup_cons.1 (List.nodup_cons.1 hnd0).2).2
 have hrr : ∀ p ∈ (1, g.o) :: (0, gu.o) :: ms, p.1 ≠ sb ∧ p.1 ≠ pb := fun p hp => by
  have hpm := List.mem_map_of_mem (f := Prod.fst) hp
  have h1 := List.nodup_cons.1 hnd0
  have h2 := List.nodup_cons.1 h1.2
  exact ⟨fun he => h1.1 (List.mem_cons_of_mem _ (he ▸ hpm)), fun he => h2.1 (he ▸ hpm)⟩
 refine enter (E := fun k => k = sb ∨ k = pb) Tryd.func48 rfl Tryd.ntmps48 (Nat.le_of_ble_eq_true rfl) [(0, _), (1, _), (2, _)] (AOk.get («as» := [_, _, _]) ⟨rfl, rfl, rfl, trivial⟩) ((sb, srO (.iface t u) base cur lim nn) :: (pb, .cells l.toArray e (0, 0)) :: (1, g.o) :: (0, gu.o) :: ms) hms hnd0 ?_
 refine scR ?_
 iterate 2 refine sqA rfl rfl ?_
 refine sqZ ?_
 refine sc_seq ?_
 refine scR ?_
 refine sqM rfl rfl ?_
 refine sq_q (q_len rfl Tryd.runUnderlying22) rfl ?_
 refine sqM rfl rfl ?_
 refine sq_q (q_decF (q_lss rfl rfl) (by omega)) rfl ?_
 refine sqK [0, 1, 2, 6, 7, 12] rfl ?_
 refine sc_cond_f rfl ?_
 refine scS ?_
 refine scK [0, 1, 2, 6, 7] rfl ?_
 refine sc_seq ?_
 refine sc_block ?_
 refine sc_rounds ?_
 refine sl_round ?_
 refine sc_seq ?_
 refine scR ?_
 iterate 2 refine sqM rfl rfl ?_
 refine sq_q (q_decT (q_lss rfl rfl) (by omega)) rfl ?_
 refine sqM rfl rfl ?_
 refine sq_gy rfl rfl rfl ?_
 refine sqM rfl rfl ?_
 refine sq_gy rfl rfl rfl ?_
 refine sq_q (q_nil_eql_nil rfl Tryd.runUnderlying86) rfl ?_
 refine sqT rfl rfl rfl ?_
 refine sqK [0, 1, 2, 6, 7, 18, 19, 20] rfl ?_
 refine sc_cond_t rfl ?_
 refine scS ?_
 refine scK [0, 1, 2, 6, 18, 19] rfl ?_
 refine sc_block ?_
 refine scR ?_
 refine sqA rfl rfl ?_
 refine sqK [0, 1, 2, 6, 18, 19] rfl ?_
 refine sc_seq ?_
 refine sc_draw [0, 1, 2, 3, 4, 5, 6, 7, 8, 9, 10, 11, 12] [7] [] mixed (by kernel_rfl) (by kernel_rfl) (fun _ h => by cases h) ?_
 iterate 3 refine drM rfl rfl rfl ?_
 refine dr_q rfl rfl (q_slice_k (l := 0) (j := 0) rfl rfl Tryd.runUnderlying22 Tryd.sizeOf5 (by omega) (by omega) rfl) ?_
 refine dr_q rfl rfl (q_mfunc rfl) ?_
 refine dr_q rfl rfl (q_nilm rfl (fun _ => by kernel_rfl)) ?_
 refine drM rfl rfl rfl ?_
 refine dr_m rfl rfl (read_inv h (m := m - 0) hlim hcur hnd hsr (by simp) hrr hmrn rfl rfl (by omega) (by omega) (by omega) (fun k hk _ => hk)) (fun _ _ p hp => by cases hp) (fun z hz => ?_)
 refine drM rfl rfl rfl ?_
 iterate 2 refine dr_q rfl rfl (q_extract rfl rfl) ?_
 iterate 2 refine drA rfl rfl rfl ?_
 refine dr_nil ?_
 obtain ⟨xs, e0, N2⟩ := z
 obtain ⟨hR, hN⟩ := hz
 have hlen := (TR.err h hR).1
 rcases (TR.err h hR).2.2 with ⟨rfl, hx⟩ | rfl | ⟨rfl, t2, u2, rfl⟩
 ·
  have hx2 : xs.length = m := hfull _ _ hR rfl
  refine se_seq ?_
  refine scK [0, 1, 2, 6, 7, 8, 18, 19] rfl ?_
  refine sc_region ?_
  iterate 2 refine sqM rfl rfl ?_
  refine sq_q (q_add (a := 0) rfl rfl (w_i64e (Int.zero_add _) (by omega) (by simp only [List.length_nil] at *; omega))) rfl ?_
  refine sqA rfl rfl ?_
  refine sq_nil ?_
  refine se_block ?_
  refine se_again ?_
  refine slK [0, 1, 2, 6, 7, 18, 19] rfl ?_
  refine sl_round ?_
  refine sc_seq ?_
  refine scR ?_
  iterate 2 refine sqM rfl rfl ?_
  refine sq_q (q_decF (q_lss rfl rfl) (by dsimp only; omega)) rfl ?_
  refine sqM rfl rfl ?_
  iterate 2 refine sq_gn rfl rfl rfl rfl ?_
  refine sqF rfl rfl rfl ?_
  refine sqK [0, 1, 2, 6, 7, 18, 19, 20] rfl ?_
  refine sc_cond_f rfl ?_
  refine sc_exit ?_
  iterate 2 refine se_then_exit ?_
  refine se_block_hit ?_
  refine se_seq ?_
  refine scK [2, 6, 7] rfl ?_
  refine sc_seq ?_
  refine scR ?_
  iterate 2 refine sqM rfl rfl ?_
  refine sq_q (q_decT (q_geq rfl rfl) (by dsimp only; omega)) rfl ?_
  refine sqK [6, 7, 37] rfl ?_
  refine sc_cond_t rfl ?_
  refine sc_region ?_
  refine sqA rfl rfl ?_
  refine sqK [6, 7] rfl ?_
  refine sc_ret ?_
  exact se_end (res2 Tryd.results48 rfl rfl) (fun w' hw => ⟨_, _, ⟨by first | exact .inl ⟨rfl, by first | exact hx2 | omega⟩ | exact .inr ⟨by first | omega | (simp; omega), _, _, rfl⟩, fun _ => ⟨_, hR⟩⟩, rfl, hw.eff, hw.get (i := 0) rfl, hw.get (i := 1) rfl⟩)
 ·
  have _tok := trivial
  refine se_seq ?_
  refine scK [0, 1, 2, 6, 7, 8, 18, 19] rfl ?_
  refine sc_region ?_
  iterate 2 refine sqM rfl rfl ?_
  refine sq_q (q_add (a := 0) rfl rfl (w_i64e (Int.zero_add _) (by omega) (by simp only [List.length_nil] at *; omega))) rfl ?_
  refine sqA rfl rfl ?_
  refine sq_nil ?_
  refine se_block ?_
  refine se_again ?_
  refine slK [0, 1, 2, 6, 7, 18, 19] rfl ?_
  refine sl_round ?_
  refine sc_seq ?_
  refine scR ?_
  iterate 2 refine sqM rfl rfl ?_
  refine sq_split (q_lss rfl rfl) rfl (fun h3_2 => ?_) (fun h3_2 => ?_)
  ·
   have _tok := trivial
   refine sqM rfl rfl ?_
   refine sq_gy rfl rfl rfl ?_
   refine sqM rfl rfl ?_
   refine sq_gy rfl rfl rfl ?_
   refine sq_q (q_iface_eql_nil rfl rfl Tryd.runUnderlying86) rfl ?_
   refine sqT rfl rfl rfl ?_
   refine sqK [0, 1, 2, 6, 7, 18, 19, 20] rfl ?_
   refine sc_cond_f rfl ?_
   refine sc_exit ?_
   iterate 2 refine se_then_exit ?_
   refine se_block_hit ?_
   refine se_seq ?_
   refine scK [2, 6, 7] rfl ?_
   refine sc_seq ?_
   refine scR ?_
   iterate 2 refine sqM rfl rfl ?_
   refine sq_split (q_geq rfl rfl) rfl (fun h7_2 => ?_) (fun h7_2 => ?_)
   ·
    have _tok := trivial
    refine sqK [6, 7, 37] rfl ?_
    refine sc_cond_t rfl ?_
    refine sc_region ?_
    refine sqA rfl rfl ?_
    refine sqK [6, 7] rfl ?_
    refine sc_ret ?_
    exact se_end (res2 Tryd.results48 rfl rfl) (fun w' hw => ⟨_, _, ⟨by first | exact .inl ⟨rfl, by first | exact hx2 | omega⟩ | exact .inr ⟨by first | omega | (simp; omega), _, _, rfl⟩, fun _ => ⟨_, hR⟩⟩, rfl, hw.eff, hw.get (i := 0) rfl, hw.get (i := 1) rfl⟩)
   refine sqK [6, 7, 37] rfl ?_
   refine sc_cond_f rfl ?_
   refine scR ?_
   refine sqM rfl rfl ?_
   refine sq_split (q_gtr rfl rfl) rfl (fun h9_1 => ?_) (fun h9_1 => ?_)
   ·
    have _tok := trivial
    refine sqM rfl rfl ?_
    refine sq_gy rfl rfl rfl ?_
    refine sqM rfl rfl ?_
    refine sq_gy rfl rfl rfl ?_
    refine sq_q (q_load1 rfl Tryd.isAgg86 (i := 2) rfl g.h) rfl ?_
    refine sq_gy rfl rfl rfl ?_
    refine sq_q (q_iface_eql_same rfl rfl Tryd.runUnderlying86 Tryd.runUnderlying177 Tryd.sizeOf202 Tryd.typeInfo177 rfl) rfl ?_
    refine sqT rfl rfl rfl ?_
    refine sqK [6, 7, 44] rfl ?_
    refine sc_cond_t rfl ?_
    refine sc_region ?_
    refine sq_q (q_load1 rfl Tryd.isAgg86 (i := 3) rfl gu.h) rfl ?_
    refine sqA rfl rfl ?_
    refine sqK [6, 7] rfl ?_
    refine sc_ret ?_
    exact se_end (res2 Tryd.results48 rfl rfl) (fun w' hw => ⟨_, _, ⟨by first | exact .inl ⟨rfl, by first | exact hx2 | omega⟩ | exact .inr ⟨by first | omega | (simp; omega), _, _, rfl⟩, fun _ => ⟨_, hR⟩⟩, rfl, hw.eff, hw.get (i := 0) rfl, hw.get (i := 1) rfl⟩)
   refine sqM rfl rfl ?_
   iterate 3 refine sq_gn rfl rfl rfl rfl ?_
   refine sqF rfl rfl rfl ?_
   refine sqK [6, 7, 44] rfl ?_
   refine sc_cond_f rfl ?_
   refine scS ?_
   refine scK [6, 7] rfl ?_
   refine sc_ret ?_
   exact se_end (res2 Tryd.results48 rfl rfl) (fun w' hw => ⟨_, _, ⟨by first | exact .inl ⟨rfl, by first | exact hx2 | omega⟩ | exact .inr ⟨by first | omega | (simp; omega), _, _, rfl⟩, fun _ => ⟨_, hR⟩⟩, rfl, hw.eff, hw.get (i := 0) rfl, hw.get (i := 1) rfl⟩)
  refine sqM rfl rfl ?_
  iterate 2 refine sq_gn rfl rfl rfl rfl ?_
  refine sqF rfl rfl rfl ?_
  refine sqK [0, 1, 2, 6, 7, 18, 19, 20] rfl ?_
  refine sc_cond_f rfl ?_
  refine sc_exit ?_
  iterate 2 refine se_then_exit ?_
  refine se_block_hit ?_
  refine se_seq ?_
  refine scK [2, 6, 7] rfl ?_
  refine sc_seq ?_
  refine scR ?_
  iterate 2 refine sqM rfl rfl ?_
  refine sq_split (q_geq rfl rfl) rfl (fun h7_2 => ?_) (fun h7_2 => ?_)
  ·
   have _tok := trivial
   refine sqK [6, 7, 37] rfl ?_
   refine sc_cond_t rfl ?_
   refine sc_region ?_
   refine sqA rfl rfl ?_
   refine sqK [6, 7] rfl ?_
   refine sc_ret ?_
   exact se_end (res2 Tryd.results48 rfl rfl) (fun w' hw => ⟨_, _, ⟨by first | exact .inl ⟨rfl, by first | exact hx2 | omega⟩ | exact .inr ⟨by first | omega | (simp; omega), _, _, rfl⟩, fun _ => ⟨_, hR⟩⟩, rfl, hw.eff, hw.get (i := 0) rfl, hw.get (i := 1) rfl⟩)
  refine sqK [6, 7, 37] rfl ?_
  refine sc_cond_f rfl ?_
  refine scR ?_
  refine sqM rfl rfl ?_
  refine sq_split (q_gtr rfl rfl) rfl (fun h9_1 => ?_) (fun h9_1 => ?_)
  ·
   have _tok := trivial
   refine sqM rfl rfl ?_
   refine sq_gy rfl rfl rfl ?_
   refine sqM rfl rfl ?_
   refine sq_gy rfl rfl rfl ?_
   refine sq_q (q_load1 rfl Tryd.isAgg86 (i := 2) rfl g.h) rfl ?_
   refine sq_gy rfl rfl rfl ?_
   refine sq_q (q_iface_eql_same rfl rfl Tryd.runUnderlying86 Tryd.runUnderlying177 Tryd.sizeOf202 Tryd.typeInfo177 rfl) rfl ?_
   refine sqT rfl rfl rfl ?_
   refine sqK [6, 7, 44] rfl ?_
   refine sc_cond_t rfl ?_
   refine sc_region ?_
   refine sq_q (q_load1 rfl Tryd.isAgg86 (i := 3) rfl gu.h) rfl ?_
   refine sqA rfl rfl ?_
   refine sqK [6, 7] rfl ?_
   refine sc_ret ?_
   exact se_end (res2 Tryd.results48 rfl rfl) (fun w' hw => ⟨_, _, ⟨by first | exact .inl ⟨rfl, by first | exact hx2 | omega⟩ | exact .inr ⟨by first | omega | (simp; omega), _, _, rfl⟩, fun _ => ⟨_, hR⟩⟩, rfl, hw.eff, hw.get (i := 0) rfl, hw.get (i := 1) rfl⟩)
  refine sqM rfl rfl ?_
  iterate 3 refine sq_gn rfl rfl rfl rfl ?_
  refine sqF rfl rfl rfl ?_
  refine sqK [6, 7, 44] rfl ?_
  refine sc_cond_f rfl ?_
  refine scS ?_
  refine scK [6, 7] rfl ?_
  refine sc_ret ?_
  exact se_end (res2 Tryd.results48 rfl rfl) (fun w' hw => ⟨_, _, ⟨by first | exact .inl ⟨rfl, by first | exact hx2 | omega⟩ | exact .inr ⟨by first | omega | (simp; omega), _, _, rfl⟩, fun _ => ⟨_, hR⟩⟩, rfl, hw.eff, hw.get (i := 0) rfl, hw.get (i := 1) rfl⟩)
 refine se_seq ?_
 refine scK [0, 1, 2, 6, 7, 8, 18, 19] rfl ?_
 refine sc_region ?_
 iterate 2 refine sqM rfl rfl ?_
 refine sq_q (q_add (a := 0) rfl rfl (w_i64e (Int.zero_add _) (by omega) (by simp only [List.length_nil] at *; omega))) rfl ?_
 refine sqA rfl rfl ?_
 refine sq_nil ?_
 refine se_block ?_
 refine se_again ?_
 refine slK [0, 1, 2, 6, 7, 18, 19] rfl ?_
 refine sl_round ?_
 refine sc_seq ?_
 refine scR ?_
 iterate 2 refine sqM rfl rfl ?_
 refine sq_split (q_lss rfl rfl) rfl (fun h3_2 => ?_) (fun h3_2 => ?_)
 ·
  have _tok := trivial
  refine sqM rfl rfl ?_
  refine sq_gy rfl rfl rfl ?_
  refine sqM rfl rfl ?_
  refine sq_gy rfl rfl rfl ?_
  refine sq_q (q_iface_eql_nil rfl rfl Tryd.runUnderlying86) rfl ?_
  refine sqT rfl rfl rfl ?_
  refine sqK [0, 1, 2, 6, 7, 18, 19, 20] rfl ?_
  refine sc_cond_f rfl ?_
  refine sc_exit ?_
  iterate 2 refine se_then_exit ?_
  refine se_block_hit ?_
  refine se_seq ?_
  refine scK [2, 6, 7] rfl ?_
  refine sc_seq ?_
  refine scR ?_
  iterate 2 refine sqM rfl rfl ?_
  refine sq_q (q_decF (q_geq rfl rfl) (by simp; omega)) rfl ?_
  refine sqK [6, 7, 37] rfl ?_
  refine sc_cond_f rfl ?_
  refine scR ?_
  refine sqM rfl rfl ?_
  refine sq_q (q_decF (q_gtr rfl rfl) (by simp)) rfl ?_
  refine sqM rfl rfl ?_
  iterate 3 refine sq_gn rfl rfl rfl rfl ?_
  refine sqF rfl rfl rfl ?_
  refine sqK [6, 7, 44] rfl ?_
  refine sc_cond_f rfl ?_
  refine scS ?_
  refine scK [6, 7] rfl ?_
  refine sc_ret ?_
  exact se_end (res2 Tryd.results48 rfl rfl) (fun w' hw => ⟨_, _, ⟨by first | exact .inl ⟨rfl, by first | exact hx2 | omega⟩ | exact .inr ⟨by first | omega | (simp; omega), _, _, rfl⟩, fun _ => ⟨_, hR⟩⟩, rfl, hw.eff, hw.get (i := 0) rfl, hw.get (i := 1) rfl⟩)
 refine sqM rfl rfl ?_
 iterate 2 refine sq_gn rfl rfl rfl rfl ?_
 refine sqF rfl rfl rfl ?_
 refine sqK [0, 1, 2, 6, 7, 18, 19, 20] rfl ?_
 refine sc_cond_f rfl ?_
 refine sc_exit ?_
 iterate 2 refine se_then_exit ?_
 refine se_block_hit ?_
 refine se_seq ?_
 refine scK [2, 6, 7] rfl ?_
 refine sc_seq ?_
 refine scR ?_
 iterate 2 refine sqM rfl rfl ?_
 refine sq_q (q_decF (q_geq rfl rfl) (by simp; omega)) rfl ?_
 refine sqK [6, 7, 37] rfl ?_
 refine sc_cond_f rfl ?_
 refine scR ?_
 refine sqM rfl rfl ?_
 refine sq_q (q_decF (q_gtr rfl rfl) (by simp)) rfl ?_
 refine sqM rfl rfl ?_
 iterate 3 refine sq_gn rfl rfl rfl rfl ?_
 refine sqF rfl rfl rfl ?_
 refine sqK [6, 7, 44] rfl ?_
 refine sc_cond_f rfl ?_
 refine scS ?_
 refine scK [6, 7] rfl ?_
 refine sc_ret ?_
 exact se_end (res2 Tryd.results48 rfl rfl) (fun w' hw => ⟨_, _, ⟨by first | exact .inl ⟨rfl, by first | exact hx2 | omega⟩ | exact .inr ⟨by first | omega | (simp; omega), _, _, rfl⟩, fun _ => ⟨_, hR⟩⟩, rfl, hw.eff, hw.get (i := 0) rfl, hw.get (i := 1) rfl⟩)

end Go.Proofs.YtgkjnkhoopcjgaaDoor
/- ReadFull, NewSectionReader, readDataAt, readData, the reader of nothing. Conditions: what they read lies in memory; places and lengths fit. -/
namespace Go.Proofs.YtgkjnkhoopcjgaaDoor
open Go.Sx
set_option maxRecDepth 100000

theorem least48_0 {v : Value} {ad : Option Addr} {c : Nat} {w : World} :
  Calls Tryd.prog 48 #[v, .slice ad 0 c, .int .i64 (0 : Nat)] w fun en w' => en = .returned (.tuple #[.int .i64 0, .nilIface]) ∧ Same w w' := by
 refine begins E0 Tryd.func48 rfl Tryd.ntmps48 rfl [(0, _), (1, _), (2, _)] ⟨rfl, rfl, rfl, trivial⟩ [] trivial List.nodup_nil ?_
 refine scR ?_
 iterate 2 refine sqA rfl rfl ?_
 refine sqZ ?_
 refine sc_seq ?_
 refine scR ?_
 refine sqM rfl rfl ?_
 refine sq_q (q_len rfl Tryd.runUnderlying22) rfl ?_
 refine sqM rfl rfl ?_
 refine sq_q (q_decF (q_lss rfl rfl) (by omega)) rfl ?_
 refine sqK [0, 1, 2, 6, 7, 12] rfl ?_
 refine sc_cond_f rfl ?_
 refine scS ?_
 refine scK [0, 1, 2, 6, 7] rfl ?_
 refine sc_seq ?_
 refine sc_block ?_
 refine sc_rounds ?_
 refine sl_round ?_
 refine sc_seq ?_
 refine scR ?_
 iterate 2 refine sqM rfl rfl ?_
 refine sq_q (q_decF (q_lss rfl rfl) (by omega)) rfl ?_
 refine sqM rfl rfl ?_
 iterate 2 refine sq_gn rfl rfl rfl rfl ?_
 refine sqF rfl rfl rfl ?_
 refine sqK [0, 1, 2, 6, 7, 18, 19, 20] rfl ?_
 refine sc_cond_f rfl ?_
 refine sc_exit ?_
 iterate 2 refine se_then_exit ?_
 refine se_block_hit ?_
 refine se_seq ?_
 refine scK [2, 6, 7] rfl ?_
 refine sc_seq ?_
 refine scR ?_
 iterate 2 refine sqM rfl rfl ?_
 refine sq_q (q_decT (q_geq rfl rfl) (by omega)) rfl ?_
 refine sqK [6, 7, 37] rfl ?_
 refine sc_cond_t rfl ?_
 refine sc_region ?_
 refine sqA rfl rfl ?_
 refine sqK [6, 7] rfl ?_
 refine sc_ret ?_
 exact se_end (res2 Tryd.results48 rfl rfl) (fun w' hw => ⟨rfl, hw.same_of⟩)

theorem least48' {g gu : Gx} {t : TypeId} {u : Value} {ms : MM} {R : Nat → Nat → List UInt8 → Value → Prop} (h : RC g t u ms R) {sb base cur lim : Nat} {nn : Value} {pb m mc : Nat} {l : List Value} {e : TypeId} {w : World} (hlim : lim ≤ 9223372036854775807) (hcur : cur ≤ 9223372036854775807)
  (hfull : ∀ xs e, TR g R lim cur m xs e → e = .nilIface → xs.length = m) (hnd0 : (((sb, srO (.iface t u) base cur lim nn) :: (pb, .cells l.toArray e (0, 0)) :: (1, g.o) :: (0, gu.o) :: ms).map Prod.fst).Nodup) (hms : Has ((sb, srO (.iface t u) base cur lim nn) :: (pb, .cells l.toArray e (0, 0)) :: (1, g.o) :: (0, gu.o) :: ms) w) (hl : m ≤ l.length) (hm : m ≤ mc) (hmc : mc ≤ 9223372036854775807) :
  Calls Tryd.prog 48 #[.iface 81 (.pointer (some ⟨sb, 0, none⟩)), .slice (some ⟨pb, 0, none⟩) m mc, .int .i64 (m : Nat)] w fun en w' =>
   ∃ xs err, FR g R lim cur m xs err ∧ en = .returned (.tuple #[.int .i64 (xs.length : Nat), err]) ∧ Eff (fun k => k = sb ∨ k = pb) w w' ∧ w'.heap[sb]? = some (srO (.iface t u) base (cur + xs.length) lim nn) ∧ w'.heap[pb]? = some (.cells (lay l 0 xs).toArray e (0, 0)) := by
 by_cases hpos : 0 < m
 ·
  exact least48 h hlim hcur hfull hnd0 hms hl hm hmc hpos
 ·
  obtain rfl : m = 0 := by omega
  refine least48_0.mono fun en w' ⟨he, hs⟩ => ⟨[], .nilIface, ⟨.inl ⟨rfl, rfl⟩, fun h => absurd h hpos⟩, he, hs.eff _, ?_, ?_⟩
  ·
   rw [hs.1]; exact hms.get (i := 0) rfl
  ·
   rw [hs.1, lay_nil]; exact hms.get (i := 1) rfl

theorem full43 {g gu : Gx} {t : TypeId} {u : Value} {ms : MM} {R : Nat → Nat → List UInt8 → Value → Prop} (h : RC g t u ms R) {sb base cur lim : Nat} {nn : Value} {pb m mc : Nat} {l : List Value} {e : TypeId} {w : World} (hlim : lim ≤ 9223372036854775807) (hcur : cur ≤ 9223372036854775807)
  (hfull : ∀ xs e, TR g R lim cur m xs e → e = .nilIface → xs.length = m) (hnd0 : (((sb, srO (.iface t u) base cur lim nn) :: (pb, .cells l.toArray e (0, 0)) :: (1, g.o) :: (0, gu.o) :: ms).map Prod.fst).Nodup) (hms : Has ((sb, srO (.iface t u) base cur lim nn) :: (pb, .cells l.toArray e (0, 0)) :: (1, g.o) :: (0, gu.o) :: ms) w) (hl : m ≤ l.length) (hm : m ≤ mc) (hmc : mc ≤ 9223372036854775807) :
  Calls Tryd.prog 43 #[.iface 81 (.pointer (some ⟨sb, 0, none⟩)), .slice (some ⟨pb, 0, none⟩) m mc] w fun en w' =>
   ∃ xs err, FR g R lim cur m xs err ∧ en = .returned (.tuple #[.int .i64 (xs.length : Nat), err]) ∧ Eff (fun k => k = sb ∨ k = pb) w w' ∧ w'.heap[sb]? = some (srO (.iface t u) base (cur + xs.length) lim nn) ∧ w'.heap[pb]? = some (.cells (lay l 0 xs).toArray e (0, 0)) := by
 refine enter (E := fun k => k = sb ∨ k = pb) Tryd.func43 rfl Tryd.ntmps43 (Nat.le_of_ble_eq_true rfl) [(0, _), (1, _)] (AOk.get («as» := [_, _]) ⟨rfl, rfl, trivial⟩) ((sb, srO (.iface t u) base cur lim nn) :: (pb, .cells l.toArray e (0, 0)) :: (1, g.o) :: (0, gu.o) :: ms) hms hnd0 ?_
 refine scR ?_
 iterate 2 refine sqA rfl rfl ?_
 refine sqKR [0, 1] rfl ?_
 iterate 3 refine sqM rfl rfl ?_
 refine sq_q (q_len rfl Tryd.runUnderlying22) rfl ?_
 refine sq_m (m_call (V := fun z : Rx => .tuple #[.int .i64 (z.xs.length : Nat), z.err]) (N' := fun z => z.N) (F := fun z => FR g R lim cur m z.xs z.err) (mm' := fun z => [(sb, srO (.iface t u) base (cur + z.xs.length) lim nn), (pb, .cells (lay l 0 z.xs).toArray e (0, 0))]) (args3 rfl rfl rfl) Tryd.call48 (fun w1 hw => (least48' h hlim hcur hfull hnd0 hw.has hl hm hmc).mono fun en w' ⟨xs, err, hF, hen, he, h2, h3⟩ => ⟨⟨xs, err, w'.heap.size⟩, hF, hen, by
   have := hw.call he (fun k hk _ => hk) [] [(sb, _), (pb, _)] (fun q hq => by cases hq) (fun q hq => by cases hq) (by intro q hq; rcases List.mem_cons.1 hq with rfl | hq; exact h2; rcases List.mem_singleton.1 hq with rfl; exact h3) (by simp; intro he; subst he; simp at hnd0)
   exact this⟩)) rfl (fun z hz => ?_)
 iterate 2 refine sq_q (q_extract rfl rfl) rfl ?_
 iterate 2 refine sqA rfl rfl ?_
 refine sqK [4, 5] rfl ?_
 refine sc_ret ?_
 exact se_end (res2 Tryd.results43 rfl rfl) (fun w' hw => ⟨z.xs, z.err, hz, rfl, hw.eff, hw.get (i := 0) rfl, hw.get (i := 1) rfl⟩)

/-- Where a section reader ends. -/
def limOf (off n : Nat) : Nat := if off + n ≤ 9223372036854775807 then off + n else 9223372036854775807
theorem limOf_le (off n : Nat) : limOf off n ≤ 9223372036854775807 := by unfold limOf; split <;> omega
theorem limOf_ge {off n : Nat} (h : off ≤ 9223372036854775807) : off ≤ limOf off n := by unfold limOf; split <;> omega
theorem limOf_take {D : List UInt8} {off n : Nat} (hD : D.length ≤ 9223372036854775807) : (D.drop off).take (limOf off n - off) = (D.drop off).take n := by
 unfold limOf
 split
 ·
  rw [Nat.add_sub_cancel_left]
 ·
  rw [List.take_of_length_le (by simp; omega), List.take_of_length_le (by simp; omega)]

theorem new32 {t : TypeId} {u : Value} {off n : Nat} {w : World} (ho : off ≤ 9223372036854775807) (hn : n ≤ 9223372036854775807) :
  Calls Tryd.prog 32 #[.iface t u, .int .i64 (off : Int), .int .i64 (n : Int)] w fun en w' => en = .returned (.pointer (some ⟨w.heap.size, 0, none⟩)) ∧ Mem w E0 (w.heap.size + 1) [(w.heap.size, srO (.iface t u) off off (limOf off n) (.int .i64 (n : Int)))] w' := by
 refine begins E0 Tryd.func32 rfl Tryd.ntmps32 rfl [(0, _), (1, _), (2, _)] ⟨rfl, rfl, rfl, trivial⟩ [] trivial List.nodup_nil ?_
 refine scR ?_
 refine sqA rfl rfl ?_
 refine sqKR [0, 1, 2] rfl ?_
 refine sqA rfl rfl ?_
 refine sqK [0, 1, 2] rfl ?_
 refine sc_seq ?_
 refine scR ?_
 iterate 2 refine sqM rfl rfl ?_
 refine sq_q (q_sub rfl rfl (w_i64 (by omega) (by omega))) rfl ?_
 refine sq_split (q_leq rfl rfl) rfl (fun h2_3 => ?_) (fun h2_3 => ?_)
 ·
  have hlo : limOf off n = off + n := if_pos (by omega)
  refine sqK [0, 1, 2, 11] rfl ?_
  refine sc_cond_t rfl ?_
  refine sc_region ?_
  iterate 2 refine sqM rfl rfl ?_
  refine sq_q (q_add (a := (n : Int)) (b := (off : Int)) (r := ((limOf off n : Nat) : Int)) rfl rfl (w_i64e (by omega) (by omega) (by omega))) rfl ?_
  refine sqA rfl rfl ?_
  refine sqKR [0, 1, 2, 7] rfl ?_
  iterate 5 refine sqM rfl rfl ?_
  refine sq_q (q_build (vs := [(0, _), (1, _), (2, _), (3, .int .i64 ((limOf off n : Nat) : Int)), (4, _)]) (cs := #[.iface t u, .int .i64 (off : Int), .int .i64 (off : Int), .int .i64 ((limOf off n : Nat) : Int), .int .i64 (n : Int)]) ⟨rfl, rfl, rfl, rfl, rfl, rfl, rfl, (by first | rfl | (rw [hlo]; rfl)), rfl, rfl, trivial⟩ (fun _ => by kernel_rfl)) rfl ?_
  refine sq_m (m_box rfl rfl) rfl (fun _ _ => ?_)
  refine sqA rfl rfl ?_
  refine sqK [6] rfl ?_
  refine sc_ret ?_
  exact se_end (res1 Tryd.results32 rfl) (fun w' hw => ⟨rfl, hw⟩)
 have hlo : limOf off n = 9223372036854775807 := if_neg (by omega)
 refine sqK [0, 1, 2, 11] rfl ?_
 refine sc_cond_f rfl ?_
 refine sc_region ?_
 refine sqA rfl rfl ?_
 refine sqKR [0, 1, 2, 7] rfl ?_
 iterate 5 refine sqM rfl rfl ?_
 refine sq_q (q_build (vs := [(0, _), (1, _), (2, _), (3, .int .i64 ((limOf off n : Nat) : Int)), (4, _)]) (cs := #[.iface t u, .int .i64 (off : Int), .int .i64 (off : Int), .int .i64 ((limOf off n : Nat) : Int), .int .i64 (n : Int)]) ⟨rfl, rfl, rfl, rfl, rfl, rfl, rfl, (by first | rfl | (rw [hlo]; rfl)), rfl, rfl, trivial⟩ (fun _ => by kernel_rfl)) rfl ?_
 refine sq_m (m_box rfl rfl) rfl (fun _ _ => ?_)
 refine sqA rfl rfl ?_
 refine sqK [6] rfl ?_
 refine sc_ret ?_
 exact se_end (res1 Tryd.results32 rfl) (fun w' hw => ⟨rfl, hw⟩)

end Go.Proofs.YtgkjnkhoopcjgaaDoor
/- readDataAt, the reader of nothing, readData. Conditions: what they read lies in memory; places and lengths fit; the content is shorter than a chunk. -/
namespace Go.Proofs.YtgkjnkhoopcjgaaDoor
open Go.Sx
set_option maxRecDepth 100000

theorem _root_.Go.Sx.Has.below {mm : MM} {w : World} (h : Has mm w) : ∀ p ∈ mm, p.1 < w.heap.size := fun p hp => (Array.getElem?_eq_some_iff.1 (h p hp)).1
theorem _root_.Go.Sx.Has.fresh {mm : MM} {w : World} (h : Has mm w) : ∀ p ∈ mm, p.1 ≠ w.heap.size := fun p hp => Nat.ne_of_lt (h.below p hp)
theorem nodup_fresh {mm : MM} {w : World} (h : Has mm w) (hn : (mm.map Prod.fst).Nodup) : (w.heap.size :: mm.map Prod.fst).Nodup :=
 List.nodup_cons.2 ⟨fun hm => by obtain ⟨p, hp, he⟩ := List.mem_map.1 hm; exact h.fresh p hp he, hn⟩

/-- What readDataAt gives. -/
def RdA (D : List UInt8) (off n : Nat) (w : World) (en : Ending) (w' : World) : Prop :=
 ((off + n ≤ D.length ∨ n = 0) ∧ ∃ b, w.heap.size ≤ b ∧ en = .returned (.tuple #[.slice (some ⟨b, 0, none⟩) n n, .nilIface]) ∧ w'.heap[b]? = some (.cells (((D.drop off).take n).map u8v).toArray 5 (0, 0)) ∧ Eff E0 w w') ∨
  (¬ (off + n ≤ D.length ∨ n = 0) ∧ (∃ t u, en = .returned (.tuple #[.slice none 0 0, .iface t u])) ∧ Eff E0 w w')

theorem rda_fin {xs ys : List UInt8} {w' : World} {b n : Nat} (hx : xs = ys) (hl : xs.length = n) (ha : w'.heap[b]? = some (.cells (lay (List.replicate n (.int .u8 0)) 0 xs).toArray 5 (0, 0))) : w'.heap[b]? = some (.cells (ys.map u8v).toArray 5 (0, 0)) := by
 rw [ha, ← hx, lay_all _ _ (by rw [List.length_replicate]; omega)]
theorem mk_fits {n : Nat} (h : n ≤ 281474976710656) : Tryd.t5.bytes * n ≤ 281474976710656 := by
 have hb : Tryd.t5.bytes = 1 := by kernel_rfl
 rw [hb]; omega

theorem rda41_s {g gu : Gx} {sb : Nat} {ms mr : MM} {D : List UInt8} (h : RC g 81 (.pointer (some ⟨sb, 0, none⟩)) ms (RD g D)) {n off : Nat} {w : World} (hoff : off ≤ 9223372036854775807) (hD : D.length < 10485760) (hs : List.Subset ms mr) (h1 : (1, g.o) ∈ mr) (h0 : (0, gu.o) ∈ mr) (hnd : (mr.map Prod.fst).Nodup) (hmr : Has mr w) (hn : n < 9223372036854775808) :
  Calls Tryd.prog 41 #[.iface 81 (.pointer (some ⟨sb, 0, none⟩)), .int .u64 (n : Nat), .int .i64 (off : Nat)] w (RdA D off n w) := by
 obtain ⟨i1, hi1⟩ := List.getElem?_of_mem h1
 obtain ⟨i0, hi0⟩ := List.getElem?_of_mem h0
 have hne : ∀ p ∈ ms, p.1 ≠ w.heap.size := fun p hp => hmr.fresh p (hs hp)
 refine enter (E := E0) Tryd.func41 rfl Tryd.ntmps41 (Nat.le_of_ble_eq_true rfl) [(0, _), (1, _), (2, _)] (AOk.get («as» := [_, _, _]) ⟨rfl, rfl, rfl, trivial⟩) mr hmr hnd ?_
 refine scR ?_
 iterate 2 refine sqA rfl rfl ?_
 refine sqK [0, 1, 2] rfl ?_
 refine sc_seq ?_
 refine scR ?_
 refine sqM rfl rfl ?_
 refine sq_q (q_conv rfl Tryd.runUnderlying23 Tryd.runUnderlying2 (w_i64 (by omega) (by omega))) rfl ?_
 refine sq_q (q_decF (q_lss rfl rfl) (by omega)) rfl ?_
 refine sqM rfl rfl ?_
 refine sq_gy rfl rfl rfl ?_
 refine sqM rfl rfl ?_
 refine sq_gy rfl rfl rfl ?_
 refine sqM rfl rfl ?_
 refine sq_gy rfl rfl rfl ?_
 refine sq_q (q_conv rfl Tryd.runUnderlying23 Tryd.runUnderlying3 (w_i64 (by omega) (by omega))) rfl ?_
 refine sq_gy rfl rfl rfl ?_
 refine sq_q (q_conv rfl Tryd.runUnderlying3 Tryd.runUnderlying23 (w_u64 (by omega) (by omega))) rfl ?_
 refine sq_gy rfl rfl rfl ?_
 refine sq_q (q_decF (q_neq rfl rfl) (by omega)) rfl ?_
 refine sqF rfl rfl rfl ?_
 refine sqK [0, 1, 2, 25] rfl ?_
 refine sc_cond_f rfl ?_
 refine scS ?_
 refine scK [0, 1, 2] rfl ?_
 refine sc_seq ?_
 refine scR ?_
 refine sqM rfl rfl ?_
 refine sq_split (q_lss rfl rfl) rfl (fun h3_1 => ?_) (fun h3_1 => ?_)
 ·
  have hsm : n < 10485760 := by omega
  refine sqK [0, 1, 2, 28] rfl ?_
  refine sc_cond_t rfl ?_
  refine scR ?_
  refine sqM rfl rfl ?_
  refine sq_m (m_make (kl := .u64) (kc := .u64) (len := n) (cap := n) rfl rfl Tryd.underlying22 (i := Tryd.t5) (z := .int .u8 0) (by kernel_rfl) (by kernel_rfl) (by kernel_rfl) rfl (Nat.le_refl _) (mk_fits (by omega)) (by omega)) rfl (fun _ _ => ?_)
  refine sqA rfl rfl ?_
  refine sqKR [0, 1, 2, 8] rfl ?_
  iterate 3 refine sqM rfl rfl ?_
  refine sq_m (h.inv (mm' := fun xs => (w.heap.size, .cells (lay (List.replicate n (.int .u8 0)) 0 xs).toArray 5 (0, 0)) :: mr) (i := 0) (off := off) (m := n) rfl rfl rfl rfl (fun _ h => List.mem_cons_of_mem _ (hs h)) (List.mem_cons_of_mem _ h1) (hmr.fresh _ h1) hne (by rw [List.length_replicate]; omega) (by omega) (by omega) hoff (fun _ => rfl) (fun h => absurd h (Nat.lt_irrefl _))) rfl (fun z hz => ?_)
  refine sqM rfl rfl ?_
  iterate 2 refine sq_q (q_extract rfl rfl) rfl ?_
  iterate 2 refine sqA rfl rfl ?_
  obtain ⟨xs, e0, N2⟩ := z
  have hxs : xs = (D.drop off).take n := hz.1.1
  have hlen : xs.length = min n (D.length - off) := by rw [hxs]; simp
  have hN : w.heap.size + 1 ≤ N2 := hz.2
  rcases hz.1.2 with ⟨rfl, hx0⟩ | ⟨rfl, hx0⟩
  ·
   have hx : xs.length = n := hx0
   refine sqK [1, 8, 10] rfl ?_
   refine sc_seq ?_
   refine scR ?_
   refine sqM rfl rfl ?_
   refine sq_q (q_nil_neq_nil rfl Tryd.runUnderlying86) rfl ?_
   refine sqK [1, 8, 10, 39] rfl ?_
   refine sc_cond_f rfl ?_
   refine scS ?_
   refine scK [8] rfl ?_
   refine scR ?_
   refine sqM rfl rfl ?_
   iterate 2 refine sqA rfl rfl ?_
   refine sqK [6, 7] rfl ?_
   refine sc_ret ?_
   refine se_then_ret ?_
   exact se_end (res2 Tryd.results41 rfl rfl) (fun w' hw => .inl ⟨by omega, _, Nat.le_refl _, rfl, rda_fin (xs := xs) hxs (by omega) (hw.get (i := 0) rfl), hw.eff⟩)
  have hx : xs.length < n ∨ n = 0 := hx0
  refine sqK [1, 8, 10] rfl ?_
  refine sc_seq ?_
  refine scR ?_
  refine sqM rfl rfl ?_
  refine sq_q (q_iface_neq_nil rfl rfl Tryd.runUnderlying86) rfl ?_
  refine sqK [1, 8, 10, 39] rfl ?_
  refine sc_cond_t rfl ?_
  refine scR ?_
  refine sqM rfl rfl ?_
  refine sq_q (q_load1 rfl Tryd.isAgg86 (i := i1 + 1) hi1 g.h) rfl ?_
  refine sq_q (q_iface_neq_same rfl rfl Tryd.runUnderlying86 Tryd.runUnderlying177 Tryd.sizeOf202 Tryd.typeInfo177 rfl) rfl ?_
  refine sqM rfl rfl ?_
  refine sq_gy rfl rfl rfl ?_
  refine sqM rfl rfl ?_
  refine sq_gy rfl rfl rfl ?_
  refine sq_split (q_gtr rfl rfl) rfl (fun hp => ?_) (fun hp => ?_)
  ·
   have hpos : 0 < n := by omega
   refine sqF rfl rfl rfl ?_
   refine sqK [8, 10, 46] rfl ?_
   refine sc_cond_t rfl ?_
   refine scR ?_
   refine sqM rfl rfl ?_
   iterate 2 refine sqA rfl rfl ?_
   refine sqK [6, 7] rfl ?_
   refine sc_ret ?_
   iterate 2 refine se_then_ret ?_
   exact se_end (res2 Tryd.results41 rfl rfl) (fun w' hw => .inr ⟨by omega, ⟨_, _, rfl⟩, hw.eff⟩)
  have hpos : n = 0 := by omega
  refine sqF rfl rfl rfl ?_
  refine sqK [8, 10, 46] rfl ?_
  refine sc_cond_f rfl ?_
  refine scS ?_
  refine scK [8] rfl ?_
  refine scR ?_
  refine sqM rfl rfl ?_
  iterate 2 refine sqA rfl rfl ?_
  refine sqK [6, 7] rfl ?_
  refine sc_ret ?_
  refine se_then_ret ?_
  exact se_end (res2 Tryd.results41 rfl rfl) (fun w' hw => .inl ⟨by omega, _, Nat.le_refl _, rfl, rda_fin (xs := xs) hxs (by omega) (hw.get (i := 0) rfl), hw.eff⟩)
 have hbg : 10485760 ≤ n := by omega
 refine sqK [0, 1, 2, 28] rfl ?_
 refine sc_cond_f rfl ?_
 refine scS ?_
 refine scK [0, 1, 2] rfl ?_
 refine scR ?_
 refine sqA rfl rfl ?_
 refine sqZ ?_
 refine scR ?_
 refine sq_m (m_make (kl := .i64) (kc := .i64) (len := 10485760) (cap := 10485760) rfl rfl Tryd.underlying22 (i := Tryd.t5) (z := .int .u8 0) (by kernel_rfl) (by kernel_rfl) (by kernel_rfl) rfl (Nat.le_refl _) (mk_fits (by omega)) (by omega)) rfl (fun _ _ => ?_)
 refine sqA rfl rfl ?_
 refine sqK [0, 1, 2, 11, 12] rfl ?_
 refine sc_seq ?_
 refine sc_block ?_
 refine sc_rounds ?_
 refine sl_round ?_
 refine sc_seq ?_
 refine scR ?_
 refine sqM rfl rfl ?_
 refine sq_q (q_decT (q_gtr rfl rfl) (by omega)) rfl ?_
 refine sqK [0, 1, 2, 11, 12, 51] rfl ?_
 refine sc_cond_t rfl ?_
 refine scS ?_
 refine scK [0, 1, 2, 11, 12] rfl ?_
 refine sc_block ?_
 refine scR ?_
 refine sqM rfl rfl ?_
 refine sqA rfl rfl ?_
 refine sqK [0, 1, 2, 11, 12, 13] rfl ?_
 refine sc_seq ?_
 refine scR ?_
 refine sqM rfl rfl ?_
 refine sq_split (q_gtr rfl rfl) rfl (fun h14_1 => ?_) (fun h14_1 => ?_)
 ·
  have _tok := trivial
  refine sqK [0, 1, 2, 11, 12, 13, 54] rfl ?_
  refine sc_cond_t rfl ?_
  refine sc_region ?_
  refine sqA rfl rfl ?_
  refine sqK [0, 1, 2, 11, 12, 13] rfl ?_
  refine sc_seq ?_
  refine sc_draw [0, 1, 2, 3, 4, 5, 6, 7, 8, 9, 10, 11, 12, 13] [8] [] mixed (by kernel_rfl) (by kernel_rfl) (fun _ h => by cases h) ?_
  iterate 3 refine drM rfl rfl rfl ?_
  refine dr_q rfl rfl (q_slice_h (n' := 10485760) rfl rfl Tryd.runUnderlying22 Tryd.sizeOf5 (by omega) (by omega) rfl) ?_
  refine drM rfl rfl rfl ?_
  refine dr_q rfl rfl (q_mfunc rfl) ?_
  refine dr_q rfl rfl (q_nilm rfl (fun _ => by kernel_rfl)) ?_
  refine drM rfl rfl rfl ?_
  refine dr_m rfl rfl (h.inv (mm' := fun xs => (w.heap.size, .cells (lay (List.replicate 10485760 (.int .u8 0)) 0 xs).toArray 5 (0, 0)) :: mr) (i := 0) (off := off) (m := 10485760) rfl rfl rfl rfl (fun _ h => List.mem_cons_of_mem _ (hs h)) (List.mem_cons_of_mem _ h1) (hmr.fresh _ h1) hne (by rw [List.length_replicate]; omega) (by omega) (by omega) hoff (fun _ => rfl) (fun h => absurd h (Nat.lt_irrefl _))) (fun _ _ p hp => by cases hp) (fun z hz => ?_)
  refine drM rfl rfl rfl ?_
  iterate 2 refine dr_q rfl rfl (q_extract rfl rfl) ?_
  iterate 2 refine drA rfl rfl rfl ?_
  refine dr_nil ?_
  obtain ⟨xs, e0, N2⟩ := z
  have hxs : xs = (D.drop off).take 10485760 := hz.1.1
  have hlen : xs.length = min 10485760 (D.length - off) := by rw [hxs]; simp
  have hN : w.heap.size + 1 ≤ N2 := hz.2
  rcases hz.1.2 with ⟨rfl, hx0⟩ | ⟨rfl, hx0⟩
  ·
   exact absurd (show xs.length = 10485760 from hx0) (by rw [hlen]; omega)
  have hx : xs.length < 10485760 := by omega
  refine se_seq ?_
  refine scK [0, 1, 2, 11, 12, 13, 15] rfl ?_
  refine sc_seq ?_
  refine scR ?_
  refine sqM rfl rfl ?_
  refine sq_q (q_iface_neq_nil rfl rfl Tryd.runUnderlying86) rfl ?_
  refine sqK [0, 1, 2, 11, 12, 13, 15, 68] rfl ?_
  refine sc_cond_t rfl ?_
  refine scR ?_
  refine sqM rfl rfl ?_
  iterate 2 refine sqA rfl rfl ?_
  refine sqK [6, 7] rfl ?_
  refine sc_ret ?_
  refine se_then_ret ?_
  refine se_block_ret ?_
  refine se_then_ret ?_
  refine se_block_ret ?_
  refine se_then_ret ?_
  exact se_end (res2 Tryd.results41 rfl rfl) (fun w' hw => .inr ⟨by omega, ⟨_, _, rfl⟩, hw.eff⟩)
 have hn2 : n = 10485760 := by omega
 subst hn2
 refine sqK [0, 1, 2, 11, 12, 13, 54] rfl ?_
 refine sc_cond_f rfl ?_
 refine scS ?_
 refine scK [0, 1, 2, 11, 12, 13] rfl ?_
 refine sc_seq ?_
 refine sc_draw [0, 1, 2, 3, 4, 5, 6, 7, 8, 9, 10, 11, 12, 13] [8] [] mixed (by kernel_rfl) (by kernel_rfl) (fun _ h => by cases h) ?_
 iterate 3 refine drM rfl rfl rfl ?_
 refine dr_q rfl rfl (q_slice_h (n' := 10485760) rfl rfl Tryd.runUnderlying22 Tryd.sizeOf5 (by omega) (by omega) rfl) ?_
 refine drM rfl rfl rfl ?_
 refine dr_q rfl rfl (q_mfunc rfl) ?_
 refine dr_q rfl rfl (q_nilm rfl (fun _ => by kernel_rfl)) ?_
 refine drM rfl rfl rfl ?_
 refine dr_m rfl rfl (h.inv (mm' := fun xs => (w.heap.size, .cells (lay (List.replicate 10485760 (.int .u8 0)) 0 xs).toArray 5 (0, 0)) :: mr) (i := 0) (off := off) (m := 10485760) rfl rfl rfl rfl (fun _ h => List.mem_cons_of_mem _ (hs h)) (List.mem_cons_of_mem _ h1) (hmr.fresh _ h1) hne (by rw [List.length_replicate]; omega) (by omega) (by omega) hoff (fun _ => rfl) (fun h => absurd h (Nat.lt_irrefl _))) (fun _ _ p hp => by cases hp) (fun z hz => ?_)
 refine drM rfl rfl rfl ?_
 iterate 2 refine dr_q rfl rfl (q_extract rfl rfl) ?_
 iterate 2 refine drA rfl rfl rfl ?_
 refine dr_nil ?_
 obtain ⟨xs, e0, N2⟩ := z
 have hxs : xs = (D.drop off).take 10485760 := hz.1.1
 have hlen : xs.length = min 10485760 (D.length - off) := by rw [hxs]; simp
 have hN : w.heap.size + 1 ≤ N2 := hz.2
 rcases hz.1.2 with ⟨rfl, hx0⟩ | ⟨rfl, hx0⟩
 ·
  exact absurd (show xs.length = 10485760 from hx0) (by rw [hlen]; omega)
 have hx : xs.length < 10485760 := by omega
 refine se_seq ?_
 refine scK [0, 1, 2, 11, 12, 13, 15] rfl ?_
 refine sc_seq ?_
 refine scR ?_
 refine sqM rfl rfl ?_
 refine sq_q (q_iface_neq_nil rfl rfl Tryd.runUnderlying86) rfl ?_
 refine sqK [0, 1, 2, 11, 12, 13, 15, 68] rfl ?_
 refine sc_cond_t rfl ?_
 refine scR ?_
 refine sqM rfl rfl ?_
 iterate 2 refine sqA rfl rfl ?_
 refine sqK [6, 7] rfl ?_
 refine sc_ret ?_
 refine se_then_ret ?_
 refine se_block_ret ?_
 refine se_then_ret ?_
 refine se_block_ret ?_
 refine se_then_ret ?_
 exact se_end (res2 Tryd.results41 rfl rfl) (fun w' hw => .inr ⟨by omega, ⟨_, _, rfl⟩, hw.eff⟩)

theorem rda41 {g gu : Gx} {sb : Nat} {ms mr : MM} {D : List UInt8} (h : RC g 81 (.pointer (some ⟨sb, 0, none⟩)) ms (RD g D)) {n off : Nat} {w : World} (hoff : off ≤ 9223372036854775807) (hD : D.length < 10485760) (hs : List.Subset ms mr) (h1 : (1, g.o) ∈ mr) (h0 : (0, gu.o) ∈ mr) (hnd : (mr.map Prod.fst).Nodup) (hmr : Has mr w) (hn : n < 18446744073709551616) :
  Calls Tryd.prog 41 #[.iface 81 (.pointer (some ⟨sb, 0, none⟩)), .int .u64 (n : Nat), .int .i64 (off : Nat)] w (RdA D off n w) := by
 by_cases hs0 : n < 9223372036854775808
 ·
  exact rda41_s h hoff hD hs h1 h0 hnd hmr hs0
 obtain ⟨i1, hi1⟩ := List.getElem?_of_mem h1
 obtain ⟨i0, hi0⟩ := List.getElem?_of_mem h0
 have hne : ∀ p ∈ ms, p.1 ≠ w.heap.size := fun p hp => hmr.fresh p (hs hp)
 refine enter (E := E0) Tryd.func41 rfl Tryd.ntmps41 (Nat.le_of_ble_eq_true rfl) [(0, _), (1, _), (2, _)] (AOk.get («as» := [_, _, _]) ⟨rfl, rfl, rfl, trivial⟩) mr hmr hnd ?_
 refine scR ?_
 iterate 2 refine sqA rfl rfl ?_
 refine sqK [0, 1, 2] rfl ?_
 refine sc_seq ?_
 refine scR ?_
 refine sqM rfl rfl ?_
 refine sq_q (q_conv rfl Tryd.runUnderlying23 Tryd.runUnderlying2 (w_i64_hi (by omega) (by omega))) rfl ?_
 refine sq_q (q_decT (q_lss rfl rfl) (by omega)) rfl ?_
 refine sqM rfl rfl ?_
 iterate 5 refine sq_gn rfl rfl rfl rfl ?_
 refine sqT rfl rfl rfl ?_
 refine sqK [0, 1, 2, 25] rfl ?_
 refine sc_cond_t rfl ?_
 refine sc_seq ?_
 refine sc_draw [0, 1, 2] [] _ mixed (by kernel_rfl) (by kernel_rfl) (List.Subset.refl _) ?_
 refine dr_q rfl rfl (q_load1 rfl Tryd.isAgg86 (i := i0) hi0 gu.h) ?_
 iterate 2 refine drA rfl rfl rfl ?_
 refine dr_nil ?_
 refine se_seq ?_
 refine scK [6, 7] rfl ?_
 refine sc_ret ?_
 refine se_then_ret ?_
 exact se_end (res2 Tryd.results41 rfl rfl) (fun w' hw => .inr ⟨by omega, ⟨_, _, rfl⟩, hw.eff⟩)

end Go.Proofs.YtgkjnkhoopcjgaaDoor
/- The reader of nothing, readData, HasPrefix, Section.Open and Section.Data. Conditions: what they read lies in memory; places and lengths fit; the content is shorter than a chunk. -/
namespace Go.Proofs.YtgkjnkhoopcjgaaDoor
open Go.Sx
set_option maxRecDepth 100000

theorem new72 {s : ByteArray} {w : World} : Calls Tryd.prog 72 #[.string s] w fun en w' => en = .returned (.iface 177 (.pointer (some ⟨w.heap.size, 0, none⟩))) ∧ Eff E0 w w' := by
 refine begins E0 Tryd.func72 rfl Tryd.ntmps72 rfl [(0, _)] ⟨rfl, trivial⟩ [] trivial List.nodup_nil ?_
 refine scR ?_
 refine sqA rfl rfl ?_
 refine sqKR [0] rfl ?_
 refine sqM rfl rfl ?_
 refine sq_q (q_build (vs := [(0, _)]) (cs := #[.string s]) ⟨rfl, rfl, trivial⟩ (fun _ => by kernel_rfl)) rfl ?_
 refine sq_m (m_box rfl rfl) rfl (fun _ _ => ?_)
 refine sq_q (q_iface rfl Tryd.runUnderlying177 rfl) rfl ?_
 refine sqA rfl rfl ?_
 refine sqK [2] rfl ?_
 refine sc_ret ?_
 exact se_end (res1 Tryd.results72 rfl) (fun w' hw => ⟨rfl, hw.eff⟩)

theorem at71 {a p o : Value} {w : World} : Calls Tryd.prog 71 #[a, p, o] w fun en w' => en = .returned (.tuple #[.int .i64 0, .iface 177 (.pointer (some ⟨w.heap.size, 0, none⟩))]) ∧ Eff E0 w w' := by
 refine begins E0 Tryd.func71 rfl Tryd.ntmps71 rfl [(0, _), (1, _), (2, _)] ⟨rfl, rfl, rfl, trivial⟩ [] trivial List.nodup_nil ?_
 refine scR ?_
 iterate 2 refine sqA rfl rfl ?_
 refine sqKR [] rfl ?_
 refine sq_m (m_call (V := fun _ : Nat => .iface 177 (.pointer (some ⟨w.heap.size, 0, none⟩))) (N' := fun z => z) (F := fun _ => True) (mm' := fun _ => []) (args1 rfl) Tryd.call72 (fun w1 hw => new72.mono fun en w' ⟨he, hs⟩ => ⟨w'.heap.size, trivial, by rw [he, hw.size], hw.call_new hs [] (fun _ h => by cases h) (fun _ h => by cases h) List.nodup_nil⟩)) rfl (fun _ _ => ?_)
 iterate 2 refine sqA rfl rfl ?_
 refine sqK [6, 7] rfl ?_
 refine sc_ret ?_
 exact se_end (res2 Tryd.results71 rfl rfl) (fun w' hw => ⟨rfl, hw.eff⟩)

/-- What the reader of nothing gives. -/
def RN (off m : Nat) (xs : List UInt8) (err : Value) : Prop := xs = [] ∧ ∃ t u, err = .iface t u
theorem rc_none {g : Gx} {a : Value} : RC g 160 a [] RN := by
 refine ⟨fun off m xs e h => ⟨by rw [h.1]; exact Nat.zero_le _, .inr (.inr h)⟩, 71, fun w => by kernel_rfl, Tryd.call71, ?_⟩
 intro w pb po m mc l e off _ _ _ hb _ _ _ _ _
 refine at71.mono fun en w' ⟨he, hs⟩ => ⟨[], _, ⟨rfl, _, _, rfl⟩, he, hs.mono (fun _ _ h => h.elim), ?_⟩
 rw [lay_nil, hs.block pb (Array.getElem?_eq_some_iff.1 hb).1 (fun h => h)]
 exact hb

/-- What readData gives. -/
def DP (g : Gx) (R : Nat → Nat → List UInt8 → Value → Prop) (lim cur n : Nat) (F : Nat → Prop) (w : World) (en : Ending) (w' : World) : Prop :=
 (∃ b xs, w.heap.size ≤ b ∧ en = .returned (.tuple #[.slice (some ⟨b, 0, none⟩) n n, .nilIface]) ∧ w'.heap[b]? = some (.cells (xs.map u8v).toArray 5 (0, 0)) ∧ xs.length = n ∧ (0 < n → ∃ e, TR g R lim cur n xs e) ∧ Eff F w w') ∨
  (0 < n ∧ (∃ m xs e, TR g R lim cur m xs e ∧ xs.length < m ∧ (m = n ∨ m = 10485760 ∧ 10485760 ≤ n)) ∧ (∃ t u, en = .returned (.tuple #[.slice none 0 0, .iface t u])) ∧ Eff F w w')

/-- A ReadFull of a section reader, by a call. -/
theorem full_inv {g gu : Gx} {t : TypeId} {u : Value} {ms : MM} {R : Nat → Nat → List UInt8 → Value → Prop} (h : RC g t u ms R) {w0 : World} {E : Nat → Prop} {fm : FM} {N : Nat} {x p : Operand} {ts : Array TypeId} {sb base cur lim pb m mc : Nat} {nn : Value} {l : List Value} {e : TypeId} {mr : MM}
  {d : Option Nat} {ty : TypeId} {pos : String} {after : Array Edge} {gd : Option (Nat × Bool)}
  (hlim : lim ≤ 9223372036854775807) (hcur : cur ≤ 9223372036854775807) (hfull : ∀ xs e, TR g R lim cur m xs e → e = .nilIface → xs.length = m) (hnd0 : (sb :: pb :: 1 :: 0 :: ms.map Prod.fst).Nodup) (hs : ∀ p ∈ ms, p ∈ mr) (h1 : (1, g.o) ∈ mr) (h0 : (0, gu.o) ∈ mr) (hr : ∀ p ∈ mr, p.1 ≠ sb ∧ p.1 ≠ pb) (hmr : (mr.map Prod.fst).Nodup)
  (hx : fm.ev x = some (.iface 81 (.pointer (some ⟨sb, 0, none⟩)))) (hp : fm.ev p = some (.slice (some ⟨pb, 0, none⟩) m mc)) (hl : m ≤ l.length) (hm : m ≤ mc) (hmc : mc ≤ 9223372036854775807) (hE : ∀ k, k = sb ∨ k = pb → k < w0.heap.size → E k) :
  Main Tryd.prog w0 E fm N ((pb, .cells l.toArray e (0, 0)) :: (sb, srO (.iface t u) base cur lim nn) :: mr) ⟨d, .call { callee := .value (.func 43), args := #[x, p], argTypes := ts }, ty, pos, after, gd⟩ (fun z : Rx => .tuple #[.int .i64 (z.xs.length : Nat), z.err]) (fun z => z.N)
   (fun z => (pb, .cells (lay l 0 z.xs).toArray e (0, 0)) :: (sb, srO (.iface t u) base (cur + z.xs.length) lim nn) :: mr) (fun z => FR g R lim cur m z.xs z.err ∧ N ≤ z.N) := by
 have hsp : sb ≠ pb := fun he => by subst he; simp at hnd0
 refine m_call (args2 hx hp) Tryd.call43 fun w hw => ?_
 refine Calls.mono (full43 (gu := gu) h (sb := sb) (base := base) (cur := cur) (lim := lim) (nn := nn) (pb := pb) (m := m) (mc := mc) (l := l) (e := e) hlim hcur hfull hnd0 ?_ hl hm hmc) fun en w' ⟨xs, err, hR, hen, he, h2, h3⟩ => ?_
 ·
  intro q hq
  rcases List.mem_cons.1 hq with rfl | hq
  ·
   exact hw.has _ (by simp)
  rcases List.mem_cons.1 hq with rfl | hq
  ·
   exact hw.has _ (by simp)
  rcases List.mem_cons.1 hq with rfl | hq
  ·
   exact hw.has _ (by simp [h1])
  rcases List.mem_cons.1 hq with rfl | hq
  ·
   exact hw.has _ (by simp [h0])
  ·
   exact hw.has _ (by simp [hs q hq])
 ·
  refine ⟨⟨xs, err, w'.heap.size⟩, ⟨hR, by rw [← hw.size]; exact he.size⟩, hen, ?_⟩
  refine hw.call he hE mr [(pb, _), (sb, _)] (fun q hq => by simp [hq]) (fun q hq hk => by have := hr q hq; rcases hk with hk | hk <;> simp [hk] at this) ?_ ?_
  ·
   intro q hq
   rcases List.mem_cons.1 hq with rfl | hq
   ·
    exact h3
   ·
    have := List.mem_singleton.1 hq; subst this; exact h2
  ·
   simp only [List.cons_append, List.nil_append, List.map_cons, List.nodup_cons, List.mem_cons, not_or]
   refine ⟨⟨Ne.symm hsp, fun hq => ?_⟩, fun hq => ?_, hmr⟩
   ·
    obtain ⟨q, hq, hqe⟩ := List.mem_map.1 hq
    exact (hr q hq).2 hqe
   ·
    obtain ⟨q, hq, hqe⟩ := List.mem_map.1 hq
    exact (hr q hq).1 hqe

theorem data23 {g gu : Gx} {t : TypeId} {u : Value} {ms : MM} {R : Nat → Nat → List UInt8 → Value → Prop} (h : RC g t u ms R) {sb base cur lim n : Nat} {nn : Value} {w : World} (hlim : lim ≤ 9223372036854775807) (hcur : cur ≤ 9223372036854775807)
  (hfull : ∀ m xs e, TR g R lim cur m xs e → e = .nilIface → xs.length = m) (hshort : ∀ m xs e, TR g R lim cur m xs e → xs.length < 10485760) (hnd0 : (((sb, srO (.iface t u) base cur lim nn) :: (1, g.o) :: (0, gu.o) :: ms).map Prod.fst).Nodup) (hms : Has ((sb, srO (.iface t u) base cur lim nn) :: (1, g.o) :: (0, gu.o) :: ms) w) (hn : n < 9223372036854775808) :
  Calls Tryd.prog 23 #[.iface 81 (.pointer (some ⟨sb, 0, none⟩)), .int .u64 (n : Nat)] w (DP g R lim cur n (fun k => k = sb) w) := by
 have hfr : ∀ p ∈ (sb, srO (.iface t u) base cur lim nn) :: (1, g.o) :: (0, gu.o) :: ms, p.1 < w.heap.size := hms.below
 have hsb : sb < w.heap.size := hfr (sb, srO (.iface t u) base cur lim nn) (by simp)
 have hndN : (sb :: w.heap.size :: 1 :: 0 :: ms.map Prod.fst).Nodup := by
  have := nodup_fresh hms hnd0
  simp only [List.map_cons, List.nodup_cons, List.mem_cons, not_or] at this ⊢
  obtain ⟨⟨a1, a2, a3, a4⟩, ⟨b1, b2, b3⟩, ⟨c1, c2⟩, d1, d2⟩ := this
  exact ⟨⟨Ne.symm a1, b1, b2, b3⟩, ⟨a2, a3, a4⟩, ⟨c1, c2⟩, d1, d2⟩
 have hmrn : (((1, g.o) :: (0, gu.o) :: ms).map Prod.fst).Nodup := (List.nodup_cons.1 hnd0).2
 have hrr : ∀ p ∈ (1, g.o) :: (0, gu.o) :: ms, p.1 ≠ sb ∧ p.1 ≠ w.heap.size := fun p hp =>
  ⟨fun he => (List.nodup_cons.1 hnd0).1 (by have h9 := List.mem_map_of_mem (f := Prod.fst) hp; rw [he] at h9; exact h9), Nat.ne_of_lt (hfr p (by simp only [List.mem_cons] at hp ⊢; exact .inr hp))⟩
 refine enter (E := fun k => k = sb) Tryd.func23 rfl Tryd.ntmps23 (Nat.le_of_ble_eq_true rfl) [(0, _), (1, _)] (AOk.get («as» := [_, _]) ⟨rfl, rfl, trivial⟩) ((sb, srO (.iface t u) base cur lim nn) :: (1, g.o) :: (0, gu.o) :: ms) hms hnd0 ?_
 refine scR ?_
 iterate 2 refine sqA rfl rfl ?_
 refine sqK [0, 1] rfl ?_
 refine sc_seq ?_
 refine scR ?_
 refine sqM rfl rfl ?_
 refine sq_q (q_conv rfl Tryd.runUnderlying23 Tryd.runUnderlying2 (w_i64 (by omega) (by omega))) rfl ?_
 refine sq_q (q_decF (q_lss rfl rfl) (by omega)) rfl ?_
 refine sqM rfl rfl ?_
 refine sq_gy rfl rfl rfl ?_
 refine sqM rfl rfl ?_
 refine sq_gy rfl rfl rfl ?_
 refine sqM rfl rfl ?_
 refine sq_gy rfl rfl rfl ?_
 refine sq_q (q_conv rfl Tryd.runUnderlying23 Tryd.runUnderlying3 (w_i64 (by omega) (by omega))) rfl ?_
 refine sq_gy rfl rfl rfl ?_
 refine sq_q (q_conv rfl Tryd.runUnderlying3 Tryd.runUnderlying23 (w_u64 (by omega) (by omega))) rfl ?_
 refine sq_gy rfl rfl rfl ?_
 refine sq_q (q_decF (q_neq rfl rfl) (by omega)) rfl ?_
 refine sqF rfl rfl rfl ?_
 refine sqK [0, 1, 23] rfl ?_
 refine sc_cond_f rfl ?_
 refine scS ?_
 refine scK [0, 1] rfl ?_
 refine sc_seq ?_
 refine scR ?_
 refine sqM rfl rfl ?_
 refine sq_split (q_lss rfl rfl) rfl (fun h3_1 => ?_) (fun h3_1 => ?_)
 ·
  have hsm : n < 10485760 := by omega
  refine sqK [0, 1, 26] rfl ?_
  refine sc_cond_t rfl ?_
  refine scR ?_
  refine sqM rfl rfl ?_
  refine sq_m (m_make (kl := .u64) (kc := .u64) (len := n) (cap := n) rfl rfl Tryd.underlying22 (i := Tryd.t5) (z := .int .u8 0) (by kernel_rfl) (by kernel_rfl) (by kernel_rfl) rfl (Nat.le_refl _) (mk_fits (by omega)) (by omega)) rfl (fun _ _ => ?_)
  refine sqA rfl rfl ?_
  refine sqKR [0, 6] rfl ?_
  iterate 2 refine sqM rfl rfl ?_
  refine sq_m (full_inv (gu := gu) h (m := n) (l := List.replicate n (.int .u8 0)) (mr := (1, g.o) :: (0, gu.o) :: ms) hlim hcur (hfull _) hndN (fun p hp => by simp [hp]) (by simp) (by simp) hrr hmrn rfl rfl (by rw [List.length_replicate]; omega) (by omega) (by omega) (fun k hk hlt => hk.elim (fun hk => hk) (fun hk => absurd hlt (by omega)))) rfl (fun z hz => ?_)
  refine sqM rfl rfl ?_
  iterate 2 refine sq_q (q_extract rfl rfl) rfl ?_
  iterate 2 refine sqA rfl rfl ?_
  obtain ⟨xs, e0, N2⟩ := z
  have hFR : FR g R lim cur n xs e0 := hz.1
  have hN : w.heap.size + 1 ≤ N2 := hz.2
  rcases hFR.1 with ⟨rfl, hx⟩ | ⟨hx, t2, u2, rfl⟩
  ·
   have _tok := trivial
   refine sqK [6, 8] rfl ?_
   refine sc_seq ?_
   refine scR ?_
   refine sqM rfl rfl ?_
   refine sq_q (q_nil_neq_nil rfl Tryd.runUnderlying86) rfl ?_
   refine sqK [6, 8, 36] rfl ?_
   refine sc_cond_f rfl ?_
   refine scS ?_
   refine scK [6] rfl ?_
   refine scR ?_
   refine sqM rfl rfl ?_
   iterate 2 refine sqA rfl rfl ?_
   refine sqK [4, 5] rfl ?_
   refine sc_ret ?_
   refine se_then_ret ?_
   exact se_end (res2 Tryd.results23 rfl rfl) (fun w' hw => .inl ⟨w.heap.size, xs, Nat.le_refl _, rfl, rda_fin (xs := xs) rfl hx (hw.get (i := 0) rfl), hx, hFR.2, hw.eff⟩)
  refine sqK [6, 8] rfl ?_
  refine sc_seq ?_
  refine scR ?_
  refine sqM rfl rfl ?_
  refine sq_q (q_iface_neq_nil rfl rfl Tryd.runUnderlying86) rfl ?_
  refine sqK [6, 8, 36] rfl ?_
  refine sc_cond_t rfl ?_
  refine scR ?_
  refine sqM rfl rfl ?_
  iterate 2 refine sqA rfl rfl ?_
  refine sqK [4, 5] rfl ?_
  refine sc_ret ?_
  iterate 2 refine se_then_ret ?_
  exact se_end (res2 Tryd.results23 rfl rfl) (fun w' hw => .inr ⟨by omega, (hFR.2 (by omega)).elim fun e0 he => ⟨n, xs, e0, he, hx, .inl rfl⟩, ⟨_, _, rfl⟩, hw.eff⟩)
 have hbg : 10485760 ≤ n := by omega
 refine sqK [0, 1, 26] rfl ?_
 refine sc_cond_f rfl ?_
 refine scS ?_
 refine scK [0, 1] rfl ?_
 refine scR ?_
 refine sqA rfl rfl ?_
 refine sqZ ?_
 refine scR ?_
 refine sq_m (m_make (kl := .i64) (kc := .i64) (len := 10485760) (cap := 10485760) rfl rfl Tryd.underlying22 (i := Tryd.t5) (z := .int .u8 0) (by kernel_rfl) (by kernel_rfl) (by kernel_rfl) rfl (Nat.le_refl _) (mk_fits (by omega)) (by omega)) rfl (fun _ _ => ?_)
 refine sqA rfl rfl ?_
 refine sqK [0, 1, 9, 10] rfl ?_
 refine sc_seq ?_
 refine sc_block ?_
 refine sc_rounds ?_
 refine sl_round ?_
 refine sc_seq ?_
 refine scR ?_
 refine sqM rfl rfl ?_
 refine sq_q (q_decT (q_gtr rfl rfl) (by omega)) rfl ?_
 refine sqK [0, 1, 9, 10, 41] rfl ?_
 refine sc_cond_t rfl ?_
 refine scS ?_
 refine scK [0, 1, 9, 10] rfl ?_
 refine sc_block ?_
 refine scR ?_
 refine sqM rfl rfl ?_
 refine sqA rfl rfl ?_
 refine sqK [0, 1, 9, 10, 11] rfl ?_
 refine sc_seq ?_
 refine scR ?_
 refine sqM rfl rfl ?_
 refine sq_split (q_gtr rfl rfl) rfl (fun h13_1 => ?_) (fun h13_1 => ?_)
 ·
  have _tok := trivial
  refine sqK [0, 1, 9, 10, 11, 44] rfl ?_
  refine sc_cond_t rfl ?_
  refine sc_region ?_
  refine sqA rfl rfl ?_
  refine sqKR [0, 1, 9, 10, 11] rfl ?_
  iterate 3 refine sqM rfl rfl ?_
  refine sq_q (q_slice_h (n' := 10485760) rfl rfl Tryd.runUnderlying22 Tryd.sizeOf5 (by omega) (by omega) rfl) rfl ?_
  refine sq_m (full_inv (gu := gu) h (m := 10485760) (l := List.replicate 10485760 (.int .u8 0)) (mr := (1, g.o) :: (0, gu.o) :: ms) hlim hcur (hfull _) hndN (fun p hp => by simp [hp]) (by simp) (by simp) hrr hmrn rfl rfl (by rw [List.length_replicate]; omega) (by omega) (by omega) (fun k hk hlt => hk.elim (fun hk => hk) (fun hk => absurd hlt (by omega)))) rfl (fun z hz => ?_)
  refine sqM rfl rfl ?_
  iterate 2 refine sq_q (q_extract rfl rfl) rfl ?_
  iterate 2 refine sqA rfl rfl ?_
  obtain ⟨xs, e0, N2⟩ := z
  have hFR : FR g R lim cur 10485760 xs e0 := hz.1
  have hN : w.heap.size + 1 ≤ N2 := hz.2
  rcases hFR.1 with ⟨rfl, hx⟩ | ⟨hx, t2, u2, rfl⟩
  ·
   exact absurd hx (by have h9 := (hFR.2 (by omega)).elim fun e he => hshort _ _ _ he; omega)
  refine sqK [0, 1, 9, 10, 11, 13] rfl ?_
  refine sc_seq ?_
  refine scR ?_
  refine sqM rfl rfl ?_
  refine sq_q (q_iface_neq_nil rfl rfl Tryd.runUnderlying86) rfl ?_
  refine sqK [0, 1, 9, 10, 11, 13, 54] rfl ?_
  refine sc_cond_t rfl ?_
  refine sc_seq ?_
  refine scR ?_
  refine sqM rfl rfl ?_
  refine sq_q (q_len rfl Tryd.runUnderlying22) rfl ?_
  refine sq_q (q_decF (q_gtr rfl rfl) (by omega)) rfl ?_
  refine sqM rfl rfl ?_
  iterate 3 refine sq_gn rfl rfl rfl rfl ?_
  refine sqF rfl rfl rfl ?_
  refine sqK [13, 62] rfl ?_
  refine sc_cond_f rfl ?_
  refine scS ?_
  refine scK [13] rfl ?_
  refine scR ?_
  refine sqM rfl rfl ?_
  iterate 2 refine sqA rfl rfl ?_
  refine sqK [4, 5] rfl ?_
  refine sc_ret ?_
  refine se_then_ret ?_
  refine se_block_ret ?_
  refine se_then_ret ?_
  refine se_block_ret ?_
  refine se_then_ret ?_
  exact se_end (res2 Tryd.results23 rfl rfl) (fun w' hw => .inr ⟨by omega, (hFR.2 (by omega)).elim fun e0 he => ⟨10485760, xs, e0, he, hx, .inr ⟨rfl, by omega⟩⟩, ⟨_, _, rfl⟩, hw.eff⟩)
 have hn2 : n = 10485760 := by omega
 subst hn2
 refine sqK [0, 1, 9, 10, 11, 44] rfl ?_
 refine sc_cond_f rfl ?_
 refine scS ?_
 refine scK [0, 1, 9, 10, 11] rfl ?_
 refine scR ?_
 iterate 3 refine sqM rfl rfl ?_
 refine sq_q (q_slice_h (n' := 10485760) rfl rfl Tryd.runUnderlying22 Tryd.sizeOf5 (by omega) (by omega) rfl) rfl ?_
 refine sq_m (full_inv (gu := gu) h (m := 10485760) (l := List.replicate 10485760 (.int .u8 0)) (mr := (1, g.o) :: (0, gu.o) :: ms) hlim hcur (hfull _) hndN (fun p hp => by simp [hp]) (by simp) (by simp) hrr hmrn rfl rfl (by rw [List.length_replicate]; omega) (by omega) (by omega) (fun k hk hlt => hk.elim (fun hk => hk) (fun hk => absurd hlt (by omega)))) rfl (fun z hz => ?_)
 refine sqM rfl rfl ?_
 iterate 2 refine sq_q (q_extract rfl rfl) rfl ?_
 iterate 2 refine sqA rfl rfl ?_
 obtain ⟨xs, e0, N2⟩ := z
 have hFR : FR g R lim cur 10485760 xs e0 := hz.1
 have hN : w.heap.size + 1 ≤ N2 := hz.2
 rcases hFR.1 with ⟨rfl, hx⟩ | ⟨hx, t2, u2, rfl⟩
 ·
  exact absurd hx (by have h9 := (hFR.2 (by omega)).elim fun e he => hshort _ _ _ he; omega)
 refine sqK [0, 1, 9, 10, 11, 13] rfl ?_
 refine sc_seq ?_
 refine scR ?_
 refine sqM rfl rfl ?_
 refine sq_q (q_iface_neq_nil rfl rfl Tryd.runUnderlying86) rfl ?_
 refine sqK [0, 1, 9, 10, 11, 13, 54] rfl ?_
 refine sc_cond_t rfl ?_
 refine sc_seq ?_
 refine scR ?_
 refine sqM rfl rfl ?_
 refine sq_q (q_len rfl Tryd.runUnderlying22) rfl ?_
 refine sq_q (q_decF (q_gtr rfl rfl) (by omega)) rfl ?_
 refine sqM rfl rfl ?_
 iterate 3 refine sq_gn rfl rfl rfl rfl ?_
 refine sqF rfl rfl rfl ?_
 refine sqK [13, 62] rfl ?_
 refine sc_cond_f rfl ?_
 refine scS ?_
 refine scK [13] rfl ?_
 refine scR ?_
 refine sqM rfl rfl ?_
 iterate 2 refine sqA rfl rfl ?_
 refine sqK [4, 5] rfl ?_
 refine sc_ret ?_
 refine se_then_ret ?_
 refine se_block_ret ?_
 refine se_then_ret ?_
 refine se_block_ret ?_
 refine se_then_ret ?_
 exact se_end (res2 Tryd.results23 rfl rfl) (fun w' hw => .inr ⟨by omega, (hFR.2 (by omega)).elim fun e0 he => ⟨10485760, xs, e0, he, hx, .inr ⟨rfl, by omega⟩⟩, ⟨_, _, rfl⟩, hw.eff⟩)

end Go.Proofs.YtgkjnkhoopcjgaaDoor
/- HasPrefix, Section.Open and Section.Data. Conditions: what they read lies in memory; the content is shorter than a chunk; no compressed section. -/
namespace Go.Proofs.YtgkjnkhoopcjgaaDoor
open Go.Sx
set_option maxRecDepth 100000

/-- Whether a text begins with another. -/
def pre (s p : ByteArray) : Bool := decide (p.size ≤ s.size) && ((s.extract 0 p.size).toList == p.toList)

theorem pre49 {s p : ByteArray} {w : World} : Calls Tryd.prog 49 #[.string s, .string p] w fun en w' => en = .returned (.bool (pre s p)) ∧ Same w w' := by
 refine begins E0 Tryd.func49 rfl Tryd.ntmps49 rfl [(0, _), (1, _)] ⟨rfl, rfl, trivial⟩ [] trivial List.nodup_nil ?_
 refine scR ?_
 refine sqA rfl rfl ?_
 refine sqKR [0, 1] rfl ?_
 refine sqM rfl rfl ?_
 refine sq_q (q_lens rfl Tryd.runUnderlying9) rfl ?_
 refine sqM rfl rfl ?_
 refine sq_q (q_lens rfl Tryd.runUnderlying9) rfl ?_
 refine sq_split (q_geq rfl rfl) rfl (fun h1_4 => ?_) (fun h1_4 => ?_)
 ·
  have hge : p.size ≤ s.size := by omega
  refine sqM rfl rfl ?_
  refine sq_gy rfl rfl rfl ?_
  refine sqM rfl rfl ?_
  refine sq_gy rfl rfl rfl ?_
  refine sqM rfl rfl ?_
  refine sq_gy rfl rfl rfl ?_
  refine sq_q (q_lens rfl Tryd.runUnderlying9) rfl ?_
  refine sq_gy rfl rfl rfl ?_
  refine sq_q (q_str_h rfl rfl Tryd.runUnderlying9 (by omega) (by omega)) rfl ?_
  refine sq_gy rfl rfl rfl ?_
  refine sqM rfl rfl ?_
  refine sq_gy rfl rfl rfl ?_
  refine sq_q (q_strcmp rfl rfl) rfl ?_
  refine sqT rfl rfl rfl ?_
  refine sqA rfl rfl ?_
  refine sqK [4] rfl ?_
  refine sc_ret ?_
  first | exact se_end (res1 Tryd.results49 rfl) (fun w' hw => ⟨congrArg (fun b : Bool => Ending.returned (.bool b)) (by simp [pre, hge]), hw.same_of⟩) | exact se_end (res1 Tryd.results49 rfl) (fun w' hw => ⟨congrArg (fun b : Bool => Ending.returned (.bool b)) (by simp [pre, hge]), hw.same_of⟩)
 have hge : ¬ p.size ≤ s.size := by omega
 refine sqM rfl rfl ?_
 iterate 6 refine sq_gn rfl rfl rfl rfl ?_
 refine sqF rfl rfl rfl ?_
 refine sqA rfl rfl ?_
 refine sqK [4] rfl ?_
 refine sc_ret ?_
 first | exact se_end (res1 Tryd.results49 rfl) (fun w' hw => ⟨congrArg (fun b : Bool => Ending.returned (.bool b)) (by simp [pre, hge]), hw.same_of⟩) | exact se_end (res1 Tryd.results49 rfl) (fun w' hw => ⟨congrArg (fun b : Bool => Ending.returned (.bool b)) (by simp [pre, hge]), hw.same_of⟩)

theorem pre44 {s p : ByteArray} {w : World} : Calls Tryd.prog 44 #[.string s, .string p] w fun en w' => en = .returned (.bool (pre s p)) ∧ Same w w' := by
 refine begins E0 Tryd.func44 rfl Tryd.ntmps44 rfl [(0, _), (1, _)] ⟨rfl, rfl, trivial⟩ [] trivial List.nodup_nil ?_
 refine scR ?_
 refine sqA rfl rfl ?_
 refine sqKR [0, 1] rfl ?_
 iterate 2 refine sqM rfl rfl ?_
 refine sq_q (q_call (args2 rfl rfl) Tryd.call49 (fun w hw => pre49)) rfl ?_
 refine sqA rfl rfl ?_
 refine sqK [4] rfl ?_
 refine sc_ret ?_
 exact se_end (res1 Tryd.results44 rfl) (fun w' hw => ⟨rfl, hw.same_of⟩)

/-- What .zdebug is. -/
def zd : ByteArray := { data := #[46, 122, 100, 101, 98, 117, 103] }

/-- A section's block. -/
abbrev secO (nm : ByteArray) (ty fl addr off size link info al es fs : Nat) (ra sr : Value) : Obj :=
 .cells [.string nm, .int .u32 (ty : Int), .int .u32 (fl : Int), .int .u64 (addr : Int), .int .u64 (off : Int), .int .u64 (size : Int), .int .u32 (link : Int), .int .u32 (info : Int), .int .u64 (al : Int), .int .u64 (es : Int), .int .u64 (fs : Int), ra, sr, .int .i64 0, .int .i64 0].toArray 84 (0, 0)

/-- A new section reader, by a call. -/
theorem new_inv {w0 : World} {E : Nat → Prop} {fm : FM} {N : Nat} {mm : MM} {x y z : Operand} {ts : Array TypeId} {t : TypeId} {u : Value} {off n : Nat} {d : Option Nat} {ty : TypeId} {pos : String} {after : Array Edge} {gd : Option (Nat × Bool)}
  (ho : off ≤ 9223372036854775807) (hn : n ≤ 9223372036854775807) (hx : fm.ev x = some (.iface t u)) (hy : fm.ev y = some (.int .i64 (off : Int))) (hz : fm.ev z = some (.int .i64 (n : Int))) :
  Main Tryd.prog w0 E fm N mm ⟨d, .call { callee := .value (.func 32), args := #[x, y, z], argTypes := ts }, ty, pos, after, gd⟩ (fun _ : Unit => .pointer (some ⟨N, 0, none⟩)) (fun _ => N + 1)
   (fun _ => (N, srO (.iface t u) off off (limOf off n) (.int .i64 (n : Int))) :: mm) (fun _ => True) := by
 refine m_call (args3 hx hy hz) Tryd.call32 fun w hw => ?_
 refine (new32 ho hn).mono fun en w' ⟨hen, h⟩ => ⟨(), trivial, by rw [hen, hw.size], ?_⟩
 have := hw.call_new h.eff [(N, srO (.iface t u) off off (limOf off n) (.int .i64 (n : Int)))] (by intro p hp; have hN := hw.size; subst hN; exact h.has p hp) (by intro p hp; rw [List.mem_singleton.1 hp]; exact Nat.le_refl _) (by simp)
 rw [h.size, hw.size] at this
 exact this

theorem open24_none {sp sb ty fl addr off size link info al es fs : Nat} {nm : ByteArray} {ra : Value} {w : World} (hsec : w.heap[sp]? = some (secO nm ty fl addr off size link info al es fs ra (.pointer (some ⟨sb, 0, none⟩)))) (hty : ty = 8) (hsz : size ≤ 9223372036854775807) :
  Calls Tryd.prog 24 #[.pointer (some ⟨sp, 0, none⟩)] w fun en w' => en = .returned (.iface 81 (.pointer (some ⟨w.heap.size + 1, 0, none⟩))) ∧ Eff E0 w w' ∧ w'.heap[w.heap.size + 1]? = some (srO (.iface 160 (.pointer (some ⟨w.heap.size, 0, none⟩))) 0 0 (limOf 0 size) (.int .i64 (size : Int))) := by
 refine begins E0 Tryd.func24 rfl Tryd.ntmps24 rfl [(0, _)] ⟨rfl, trivial⟩ [(sp, secO nm ty fl addr off size link info al es fs ra (.pointer (some ⟨sb, 0, none⟩)))] ⟨hsec, trivial⟩ (by simp) ?_
 refine scR ?_
 refine sqA rfl rfl ?_
 refine sqK [0] rfl ?_
 refine sc_seq ?_
 refine scR ?_
 refine sqM rfl rfl ?_
 refine sq_q (q_nil rfl) rfl ?_
 refine sq_q (q_fieldj (j := 0) rfl Tryd.runUnderlying84 rfl Tryd.sizeOf78 rfl) rfl ?_
 refine sq_q (q_fieldj (j := 1) rfl Tryd.runUnderlying78 rfl Tryd.sizeOf75 rfl) rfl ?_
 refine sq_q (q_load1 rfl Tryd.isAgg75 (i := 0) rfl rfl) rfl ?_
 refine sq_q (q_decT (q_eql rfl rfl) (by omega)) rfl ?_
 refine sqK [0, 11] rfl ?_
 refine sc_cond_t rfl ?_
 refine scR ?_
 refine sq_q (q_build (vs := []) (cs := #[]) trivial (fun _ => by kernel_rfl)) rfl ?_
 refine sq_m (m_box rfl rfl) rfl (fun _ _ => ?_)
 refine sq_q (q_iface rfl Tryd.runUnderlying160 rfl) rfl ?_
 refine sqM rfl rfl ?_
 refine sq_q (q_nil rfl) rfl ?_
 refine sq_q (q_fieldj (j := 0) rfl Tryd.runUnderlying84 rfl Tryd.sizeOf78 rfl) rfl ?_
 refine sq_q (q_fieldj (j := 5) rfl Tryd.runUnderlying78 rfl Tryd.sizeOf23 rfl) rfl ?_
 refine sq_q (q_load1 rfl Tryd.isAgg23 (i := 1) rfl rfl) rfl ?_
 refine sq_q (q_conv rfl Tryd.runUnderlying23 Tryd.runUnderlying2 (w_i64 (by omega) (by omega))) rfl ?_
 refine sq_m (new_inv (off := 0) (n := size) (by omega) (by omega) rfl rfl rfl) rfl (fun _ _ => ?_)
 refine sq_q (q_iface rfl Tryd.runUnderlying81 rfl) rfl ?_
 refine sqA rfl rfl ?_
 refine sqK [2] rfl ?_
 refine sc_ret ?_
 refine se_then_ret ?_
 exact se_end (res1 Tryd.results24 rfl) (fun w' hw => ⟨rfl, hw.eff, hw.get (i := 0) rfl⟩)

theorem open24_file {sp sb ty fl addr off size link info al es fs : Nat} {nm : ByteArray} {ra : Value} {w : World} (hsec : w.heap[sp]? = some (secO nm ty fl addr off size link info al es fs ra (.pointer (some ⟨sb, 0, none⟩)))) (hty : ty ≠ 8) (hfl : IntKind.u32.wrap ((BitVec.ofInt IntKind.u32.bits (fl : Int) &&& BitVec.ofInt IntKind.u32.bits 2048).toNat : Int) = 0) (hnm : pre nm zd = false) :
  Calls Tryd.prog 24 #[.pointer (some ⟨sp, 0, none⟩)] w fun en w' => en = .returned (.iface 81 (.pointer (some ⟨w.heap.size, 0, none⟩))) ∧ Eff E0 w w' ∧ w'.heap[w.heap.size]? = some (srO (.iface 81 (.pointer (some ⟨sb, 0, none⟩))) 0 0 9223372036854775807 (.int .i64 9223372036854775807)) := by
 refine begins E0 Tryd.func24 rfl Tryd.ntmps24 rfl [(0, _)] ⟨rfl, trivial⟩ [(sp, secO nm ty fl addr off size link info al es fs ra (.pointer (some ⟨sb, 0, none⟩)))] ⟨hsec, trivial⟩ (by simp) ?_
 refine scR ?_
 refine sqA rfl rfl ?_
 refine sqK [0] rfl ?_
 refine sc_seq ?_
 refine scR ?_
 refine sqM rfl rfl ?_
 refine sq_q (q_nil rfl) rfl ?_
 refine sq_q (q_fieldj (j := 0) rfl Tryd.runUnderlying84 rfl Tryd.sizeOf78 rfl) rfl ?_
 refine sq_q (q_fieldj (j := 1) rfl Tryd.runUnderlying78 rfl Tryd.sizeOf75 rfl) rfl ?_
 refine sq_q (q_load1 rfl Tryd.isAgg75 (i := 0) rfl rfl) rfl ?_
 refine sq_q (q_decF (q_eql rfl rfl) (by omega)) rfl ?_
 refine sqK [0, 11] rfl ?_
 refine sc_cond_f rfl ?_
 refine scS ?_
 refine scK [0] rfl ?_
 refine sc_seq ?_
 refine scR ?_
 refine sqM rfl rfl ?_
 refine sq_q (q_nil rfl) rfl ?_
 refine sq_q (q_fieldj (j := 0) rfl Tryd.runUnderlying84 rfl Tryd.sizeOf78 rfl) rfl ?_
 refine sq_q (q_fieldj (j := 2) rfl Tryd.runUnderlying78 rfl Tryd.sizeOf76 rfl) rfl ?_
 refine sq_q (q_load1 rfl Tryd.isAgg76 (i := 0) rfl rfl) rfl ?_
 refine sq_q (q_and rfl rfl hfl) rfl ?_
 refine sq_q (q_decT (q_eql rfl rfl) (rfl)) rfl ?_
 refine sqK [0, 29] rfl ?_
 refine sc_cond_t rfl ?_
 refine sc_seq ?_
 refine scR ?_
 refine sqM rfl rfl ?_
 refine sq_q (q_nil rfl) rfl ?_
 refine sq_q (q_fieldj (j := 0) rfl Tryd.runUnderlying84 rfl Tryd.sizeOf78 rfl) rfl ?_
 refine sq_q (q_fieldj (j := 0) rfl Tryd.runUnderlying78 rfl Tryd.sizeOf9 rfl) rfl ?_
 refine sq_q (q_load1 rfl Tryd.isAgg9 (i := 0) rfl rfl) rfl ?_
 refine sq_q (q_call (args2 rfl rfl) Tryd.call44 (fun w hw => hnm ▸ pre44)) rfl ?_
 refine sq_q (q_not' rfl) rfl ?_
 refine sqK [0, 36] rfl ?_
 refine sc_cond_t rfl ?_
 refine scR ?_
 refine sqM rfl rfl ?_
 refine sq_q (q_nil rfl) rfl ?_
 refine sq_q (q_fieldj (j := 12) rfl Tryd.runUnderlying84 rfl Tryd.sizeOf81 rfl) rfl ?_
 refine sq_q (q_load1 rfl Tryd.isAgg81 (i := 0) rfl rfl) rfl ?_
 refine sq_q (q_iface rfl Tryd.runUnderlying81 rfl) rfl ?_
 refine sq_m (new_inv (off := 0) (n := 9223372036854775807) (by omega) (by omega) rfl rfl rfl) rfl (fun _ _ => ?_)
 refine sq_q (q_iface rfl Tryd.runUnderlying81 rfl) rfl ?_
 refine sqA rfl rfl ?_
 refine sqK [2] rfl ?_
 refine sc_ret ?_
 iterate 2 refine se_then_ret ?_
 exact se_end (res1 Tryd.results24 rfl) (fun w' hw => ⟨rfl, hw.eff, hw.get (i := 0) rfl⟩)

end Go.Proofs.YtgkjnkhoopcjgaaDoor
/- Section.Data. Conditions: the section's block, what its reader reads; the content is shorter than a chunk; no compressed section. -/
namespace Go.Proofs.YtgkjnkhoopcjgaaDoor
open Go.Sx
set_option maxRecDepth 100000

/-- What Data gives, of a content and a size. -/
def DataF (C : List UInt8) (n : Nat) (F : Nat → Prop) (w : World) (en : Ending) (w' : World) : Prop :=
 (n ≤ C.length ∧ ∃ b, w.heap.size ≤ b ∧ en = .returned (.tuple #[.slice (some ⟨b, 0, none⟩) n n, .nilIface]) ∧ w'.heap[b]? = some (.cells ((C.take n).map u8v).toArray 5 (0, 0)) ∧ Eff F w w') ∨
  (C.length < n ∧ (∃ t u, en = .returned (.tuple #[.slice none 0 0, .iface t u])) ∧ Eff F w w')

theorem TR.rd {g : Gx} {C : List UInt8} {lim m : Nat} {xs : List UInt8} {e : Value} (h : TR g (RD g C) lim 0 m xs e) (hl : C.length < lim) : xs = C.take m ∧ (e = .nilIface → xs.length = m) := by
 rcases h with ⟨h1, _, _⟩ | ⟨h1, h2, h3⟩
 ·
  omega
 ·
  have hx : xs = C.take m := by
   rw [h2]
   simp only [List.drop_zero, Nat.sub_zero]
   rcases Nat.le_total m lim with h | h
   ·
    rw [Nat.min_eq_left h]
   ·
    rw [Nat.min_eq_right h, List.take_of_length_le (by omega), List.take_of_length_le (by omega)]
  refine ⟨hx, fun he => ?_⟩
  rcases h3 with ⟨_, h3⟩ | ⟨h3, _⟩
  ·
   have : xs.length ≤ C.length := by rw [hx]; simp; omega
   omega
  ·
   rw [he] at h3; cases h3
theorem DP.file {g : Gx} {C : List UInt8} {lim n : Nat} {F : Nat → Prop} {w : World} {en : Ending} {w' : World} (h : DP g (RD g C) lim 0 n F w en w') (hl : C.length < lim) (hc : C.length < 10485760) : DataF C n F w en w' := by
 rcases h with ⟨b, xs, h1, h2, h3, h4, h5, h6⟩ | ⟨h1, ⟨m, xs, e, h2, h3, h4⟩, h5, h6⟩
 ·
  have hx : xs = C.take n := by
   by_cases hn : 0 < n
   ·
    obtain ⟨e, he⟩ := h5 hn
    exact (he.rd hl).1
   ·
    obtain rfl : n = 0 := by omega
    rw [List.length_eq_zero_iff.1 h4]; simp
  subst hx
  refine .inl ⟨by rw [List.length_take] at h4; omega, b, h1, h2, h3, h6⟩
 ·
  have hx := (h2.rd hl).1
  refine .inr ⟨?_, h5, h6⟩
  rw [hx, List.length_take] at h3
  rcases h4 with rfl | ⟨rfl, h4⟩ <;> omega
theorem TR.none {g : Gx} {lim m : Nat} {xs : List UInt8} {e : Value} (h : TR g RN lim 0 m xs e) : xs = [] ∧ e ≠ .nilIface := by
 rcases h with ⟨_, h1, h2⟩ | ⟨_, h1, t, u, h2⟩
 ·
  exact ⟨h1, by rw [h2]; simp⟩
 ·
  exact ⟨h1, by rw [h2]; simp⟩
theorem DP.none {g : Gx} {lim n : Nat} {F : Nat → Prop} {w : World} {en : Ending} {w' : World} (h : DP g RN lim 0 n F w en w') : DataF [] n F w en w' := by
 rcases h with ⟨b, xs, h1, h2, h3, h4, h5, h6⟩ | ⟨h1, _, h5, h6⟩
 ·
  have hn : n = 0 := by
   by_cases hn : 0 < n
   ·
    obtain ⟨e, he⟩ := h5 hn
    rw [he.none.1] at h4; exact h4.symm
   ·
    omega
  subst hn
  rw [List.length_eq_zero_iff.1 h4] at h3
  exact .inl ⟨Nat.le_refl _, b, h1, h2, by simpa using h3, h6⟩
 ·
  exact .inr ⟨h1, h5, h6⟩

/-- What stands between Open and readData. -/
structure Mid where
 t : TypeId
 u : Value
 ms : MM
 R : Nat → Nat → List UInt8 → Value → Prop
 b : Nat
 lim : Nat
 nn : Value
 N : Nat
structure MidOk (g : Gx) (C : List UInt8) (size N : Nat) (ms : MM) (z : Mid) : Prop where
 rc : RC g z.t z.u z.ms z.R
 lim : z.lim ≤ 9223372036854775807
 sub : z.ms.Sublist ms
 new : N ≤ z.b
 full : ∀ m xs e, TR g z.R z.lim 0 m xs e → e = .nilIface → xs.length = m
 short : ∀ m xs e, TR g z.R z.lim 0 m xs e → xs.length < 10485760
 conv : ∀ F w en w', DP g z.R z.lim 0 size F w en w' → DataF C size F w en w'

theorem open24 {g : Gx} {sp sb ty fl addr off size link info al es fs : Nat} {nm : ByteArray} {ra : Value} {C : List UInt8} {ms : MM} {w : World} (hsec : w.heap[sp]? = some (secO nm ty fl addr off size link info al es fs ra (.pointer (some ⟨sb, 0, none⟩)))) (hsz : size ≤ 9223372036854775807) (hC : C.length < 10485760) (hk : (ty = 8 ∧ C = []) ∨ (ty ≠ 8 ∧ IntKind.u32.wrap ((BitVec.ofInt IntKind.u32.bits (fl : Int) &&& BitVec.ofInt IntKind.u32.bits 2048).toNat : Int) = 0 ∧ pre nm zd = false ∧ RC g 81 (.pointer (some ⟨sb, 0, none⟩)) ms (RD g C))) :
  Calls Tryd.prog 24 #[.pointer (some ⟨sp, 0, none⟩)] w fun en w' => ∃ z : Mid, MidOk g C size w.heap.size ms z ∧ en = .returned (.iface 81 (.pointer (some ⟨z.b, 0, none⟩))) ∧ Eff E0 w w' ∧ w'.heap[z.b]? = some (srO (.iface z.t z.u) 0 0 z.lim z.nn) := by
 rcases hk with ⟨hty, rfl⟩ | ⟨hty, hfl, hnm, hrc⟩
 ·
  refine (open24_none hsec hty hsz).mono fun en w' ⟨h1, h2, h3⟩ => ⟨⟨160, _, [], RN, _, _, _, 0⟩, ⟨rc_none, limOf_le _ _, List.nil_sublist _, Nat.le_succ _, fun m xs e h he => absurd he h.none.2, fun m xs e h => by rw [h.none.1]; exact Nat.zero_lt_succ _, fun F w en w' h => h.none⟩, h1, h2, h3⟩
 ·
  have hCl : C.length < 9223372036854775807 := by omega
  refine (open24_file hsec hty hfl hnm).mono fun en w' ⟨h1, h2, h3⟩ => ⟨⟨81, _, ms, RD g C, _, _, _, 0⟩, ⟨hrc, Nat.le_refl _, List.Sublist.refl _, Nat.le_refl _, fun m xs e h he => (h.rd hCl).2 he, fun m xs e h => ?_, fun F w en w' h => h.file hCl hC⟩, h1, h2, h3⟩
  rw [(h.rd hCl).1, List.length_take]; omega

/-- What Data gives, with the memory that it lays. -/
structure DRes where
 v0 : Value
 v1 : Value
 nn : MM
 N : Nat
def DOk (C : List UInt8) (n N : Nat) (z : DRes) : Prop :=
 (n ≤ C.length ∧ ∃ b, N ≤ b ∧ z.v0 = .slice (some ⟨b, 0, none⟩) n n ∧ z.v1 = .nilIface ∧ z.nn = [(b, .cells ((C.take n).map u8v).toArray 5 (0, 0))]) ∨
  (C.length < n ∧ z.v0 = .slice none 0 0 ∧ (∃ t u, z.v1 = .iface t u) ∧ z.nn = [])
theorem DOk.mono {C : List UInt8} {n N N' : Nat} {z : DRes} (h : DOk C n N z) (hN : N' ≤ N) : DOk C n N' z := by
 rcases h with ⟨h1, b, h2, h3⟩ | h
 ·
  exact .inl ⟨h1, b, Nat.le_trans hN h2, h3⟩
 ·
  exact .inr h
theorem data_out {C : List UInt8} {n N b : Nat} {o : Obj} {rest : MM} {w w1 w' : World} {en : Ending} (hb : w.heap.size ≤ b) (hw : Mem w E0 N ((b, o) :: rest) w1) (hd : DataF C n (fun k => k = b) w1 en w') :
  ∃ y : DRes, DOk C n w.heap.size y ∧ en = .returned (.tuple #[y.v0, y.v1]) ∧ Mem w E0 y.N (y.nn ++ rest) w' := by
 have hnd := List.nodup_cons.1 hw.nd
 have hne : ∀ p ∈ rest, ¬ p.1 = b := fun p hp he => hnd.1 (by have h9 := List.mem_map_of_mem (f := Prod.fst) hp; rw [he] at h9; exact h9)
 rcases hd with ⟨h1, c, h2, h3, h4, h5⟩ | ⟨h1, ⟨t, u, h3⟩, h5⟩
 ·
  refine ⟨⟨_, _, [(c, _)], w'.heap.size⟩, .inl ⟨h1, c, Nat.le_trans hw.eff.size h2, rfl, rfl, rfl⟩, h3, ?_⟩
  refine hw.call h5 (fun k hk hl => by subst hk; omega) rest [(c, _)] (fun q hq => by simp [hq]) hne (fun q hq => by rw [List.mem_singleton.1 hq]; exact h4) ?_
  simp only [List.cons_append, List.nil_append, List.map_cons, List.nodup_cons]
  refine ⟨fun hm => ?_, hnd.2⟩
  obtain ⟨p, hp, he⟩ := List.mem_map.1 hm
  have := hw.lt (p := p) (by simp [hp])
  rw [hw.size] at h2
  omega
 ·
  refine ⟨⟨_, _, [], w'.heap.size⟩, .inr ⟨h1, rfl, ⟨t, u, rfl⟩, rfl⟩, h3, ?_⟩
  exact hw.call h5 (fun k hk hl => by subst hk; omega) rest [] (fun q hq => by simp [hq]) hne (fun q hq => by cases hq) hnd.2
theorem mid_nd {ms ms' : MM} {a b c d : Nat × Obj} (hs : ms'.Sublist ms) (h : ((a :: b :: c :: d :: ms).map Prod.fst).Nodup) : ((a :: c :: d :: ms').map Prod.fst).Nodup := by
 refine List.Nodup.sublist (List.Sublist.map _ ?_) h
 exact .cons_cons _ (.cons _ (.cons_cons _ (.cons_cons _ hs)))
theorem mid_has {ms ms' : MM} {a b c d : Nat × Obj} {w : World} (hs : ms'.Sublist ms) (h : Has (a :: b :: c :: d :: ms) w) : Has (a :: c :: d :: ms') w := fun p hp => h p ((List.Sublist.cons_cons _ (.cons _ (.cons_cons _ (.cons_cons _ hs)))).subset hp)

theorem data16 {g gu : Gx} {sp sb ty fl addr off size link info al es fs : Nat} {nm : ByteArray} {ra : Value} {C : List UInt8} {ms : MM} {w : World} (hsz : size ≤ 9223372036854775807) (hC : C.length < 10485760) (hk : (ty = 8 ∧ C = []) ∨ (ty ≠ 8 ∧ IntKind.u32.wrap ((BitVec.ofInt IntKind.u32.bits (fl : Int) &&& BitVec.ofInt IntKind.u32.bits 2048).toNat : Int) = 0 ∧ pre nm zd = false ∧ RC g 81 (.pointer (some ⟨sb, 0, none⟩)) ms (RD g C))) (hms : Has ((sp, secO nm ty fl addr off size link info al es fs ra (.pointer (some ⟨sb, 0, none⟩))) :: (1, g.o) :: (0, gu.o) :: ms) w) (hnd : (((sp, secO nm ty fl addr off size link info al es fs ra (.pointer (some ⟨sb, 0, none⟩))) :: (1, g.o) :: (0, gu.o) :: ms).map Prod.fst).Nodup) :
  Calls Tryd.prog 16 #[.pointer (some ⟨sp, 0, none⟩)] w fun en w' => ∃ y : DRes, DOk C size w.heap.size y ∧ en = .returned (.tuple #[y.v0, y.v1]) ∧ Mem w E0 y.N (y.nn ++ ((sp, secO nm ty fl addr off size link info al es fs ra (.pointer (some ⟨sb, 0, none⟩))) :: (1, g.o) :: (0, gu.o) :: ms)) w' := by
 refine enter (E := E0) Tryd.func16 rfl Tryd.ntmps16 (Nat.le_of_ble_eq_true rfl) [(0, _)] (AOk.get («as» := [_]) ⟨rfl, trivial⟩) ((sp, secO nm ty fl addr off size link info al es fs ra (.pointer (some ⟨sb, 0, none⟩))) :: (1, g.o) :: (0, gu.o) :: ms) hms hnd ?_
 refine scR ?_
 iterate 2 refine sqA rfl rfl ?_
 refine sqK [0] rfl ?_
 refine sc_seq ?_
 refine sc_draw [0, 2, 3, 4, 5, 6, 1, 7, 8, 9, 10, 11] [1, 7] [(sp, secO nm ty fl addr off size link info al es fs ra (.pointer (some ⟨sb, 0, none⟩)))] mixed (by kernel_rfl) (by kernel_rfl) (fun _ h => by simp at h; simp [h]) ?_
 iterate 2 refine drM rfl rfl rfl ?_
 refine dr_q rfl rfl (q_nil rfl) ?_
 refine dr_q rfl rfl (q_fieldj (j := 0) rfl Tryd.runUnderlying84 rfl Tryd.sizeOf78 rfl) ?_
 refine dr_q rfl rfl (q_fieldj (j := 5) rfl Tryd.runUnderlying78 rfl Tryd.sizeOf23 rfl) ?_
 refine dr_q rfl rfl (q_load1 rfl Tryd.isAgg23 (i := 0) rfl rfl) ?_
 refine dr_m rfl rfl (m_call (V := fun z : Mid => .iface 81 (.pointer (some ⟨z.b, 0, none⟩))) (N' := fun z => z.N) (F := fun z => MidOk g C size w.heap.size ms z) (mm' := fun z => (z.b, srO (.iface z.t z.u) 0 0 z.lim z.nn) :: (sp, secO nm ty fl addr off size link info al es fs ra (.pointer (some ⟨sb, 0, none⟩))) :: (1, g.o) :: (0, gu.o) :: ms) (args1 rfl) Tryd.call24 (fun w1 hw => (open24 (hw.get (i := 0) rfl) (by omega) hC hk).mono fun en w' ⟨z, hz, he, hs, hb⟩ => ⟨{ z with N := w'.heap.size }, ⟨hz.rc, hz.lim, hz.sub, by rw [← hw.size]; exact hz.new, hz.full, hz.short, hz.conv⟩, he, hw.call_new hs [(z.b, _)] (fun p hp => by rw [List.mem_singleton.1 hp]; exact hb) (fun p hp => by rw [List.mem_singleton.1 hp, ← hw.size]; exact hz.new) (by simp)⟩)) (fun _ _ p hp => by simp at hp; simp [hp]) (fun z hz => ?_)
 refine dr_m rfl rfl (m_call (V := fun y : DRes => .tuple #[y.v0, y.v1]) (N' := fun y => y.N) (F := fun y => DOk C size w.heap.size y) (mm' := fun y => y.nn ++ ((sp, secO nm ty fl addr off size link info al es fs ra (.pointer (some ⟨sb, 0, none⟩))) :: (1, g.o) :: (0, gu.o) :: ms)) (args2 rfl rfl) Tryd.call23 (fun w1 hw => (data23 (gu := gu) hz.rc hz.lim (Nat.zero_le _) hz.full hz.short (mid_nd hz.sub hw.nd) (mid_has hz.sub hw.has) (by omega)).mono fun en w' hd => data_out hz.new hw (hz.conv _ _ _ _ hd))) (fun y hy p hp => by simp at hp; simp [hp]) (fun y hy => ?_)
 iterate 2 refine dr_q rfl rfl (q_extract rfl rfl) ?_
 iterate 2 refine drA rfl rfl rfl ?_
 refine dr_nil ?_
 refine se_seq ?_
 refine scK [2, 3] rfl ?_
 refine sc_ret ?_
 exact se_end (res2 Tryd.results16 rfl rfl) (fun w' hw => ⟨y, hy, rfl, hw⟩)

end Go.Proofs.YtgkjnkhoopcjgaaDoor
/- sliceCapWithSize, getString, Seek, readSection32 and readSection64. Conditions: what they read lies in memory; places and lengths fit. -/
namespace Go.Proofs.YtgkjnkhoopcjgaaDoor
open Go.Sx
set_option maxRecDepth 100000

theorem cap40_8_neg {c : Nat} {w : World} (hc : 9223372036854775808 ≤ c) (hc2 : c < 18446744073709551616) : Calls Tryd.prog 40 #[.int .u64 8, .int .u64 (c : Int)] w fun en w' => en = .returned (.int .i64 (-1)) ∧ Same w w' := by
 refine begins E0 Tryd.func40 rfl Tryd.ntmps40 rfl [(0, _), (1, _)] ⟨rfl, rfl, trivial⟩ [] trivial List.nodup_nil ?_
 refine scR ?_
 refine sqA rfl rfl ?_
 refine sqK [0, 1] rfl ?_
 refine sc_seq ?_
 refine scR ?_
 refine sqM rfl rfl ?_
 refine sq_q (q_conv rfl Tryd.runUnderlying23 Tryd.runUnderlying2 (w_i64_hi (by omega) (by omega))) rfl ?_
 refine sq_q (q_decT (q_lss rfl rfl) (by omega)) rfl ?_
 refine sqM rfl rfl ?_
 iterate 5 refine sq_gn rfl rfl rfl rfl ?_
 refine sqT rfl rfl rfl ?_
 refine sqK [0, 1, 14] rfl ?_
 refine sc_cond_t rfl ?_
 refine scR ?_
 refine sqA rfl rfl ?_
 refine sqK [4] rfl ?_
 refine sc_ret ?_
 refine se_then_ret ?_
 exact se_end (res1 Tryd.results40 rfl) (fun w' hw => ⟨rfl, hw.same_of⟩)

theorem cap40_8_s {c : Nat} {w : World} (hc : c < 9223372036854775808) : Calls Tryd.prog 40 #[.int .u64 8, .int .u64 (c : Int)] w fun en w' => ∃ r : Int, en = .returned (.int .i64 r) ∧ Same w w' ∧ ((r = -1 ∧ 65536 ≤ c) ∨ ∃ k : Nat, r = k ∧ k ≤ 1310720) := by
 refine begins E0 Tryd.func40 rfl Tryd.ntmps40 rfl [(0, _), (1, _)] ⟨rfl, rfl, trivial⟩ [] trivial List.nodup_nil ?_
 refine scR ?_
 refine sqA rfl rfl ?_
 refine sqK [0, 1] rfl ?_
 refine sc_seq ?_
 refine scR ?_
 refine sqM rfl rfl ?_
 refine sq_q (q_conv rfl Tryd.runUnderlying23 Tryd.runUnderlying2 (w_i64 (by omega) (by omega))) rfl ?_
 refine sq_q (q_decF (q_lss rfl rfl) (by omega)) rfl ?_
 refine sqM rfl rfl ?_
 refine sq_gy rfl rfl rfl ?_
 refine sqM rfl rfl ?_
 refine sq_gy rfl rfl rfl ?_
 refine sqM rfl rfl ?_
 refine sq_gy rfl rfl rfl ?_
 refine sq_q (q_conv rfl Tryd.runUnderlying23 Tryd.runUnderlying3 (w_i64 (by omega) (by omega))) rfl ?_
 refine sq_gy rfl rfl rfl ?_
 refine sq_q (q_conv rfl Tryd.runUnderlying3 Tryd.runUnderlying23 (w_u64 (by omega) (by omega))) rfl ?_
 refine sq_gy rfl rfl rfl ?_
 refine sq_q (q_decF (q_neq rfl rfl) (by omega)) rfl ?_
 refine sqF rfl rfl rfl ?_
 refine sqK [0, 1, 14] rfl ?_
 refine sc_cond_f rfl ?_
 refine scS ?_
 refine scK [0, 1] rfl ?_
 refine sc_seq ?_
 refine scR ?_
 refine sqM rfl rfl ?_
 refine sq_q (q_decT (q_gtr rfl rfl) (by omega)) rfl ?_
 refine sqM rfl rfl ?_
 refine sq_gy rfl rfl rfl ?_
 refine sqM rfl rfl ?_
 refine sq_gy rfl rfl rfl ?_
 refine sqM rfl rfl ?_
 refine sq_gy rfl rfl rfl ?_
 refine sq_q (q_quoN (a := 18446744073709551615) (b := 8) (r := 2305843009213693951) rfl rfl (by omega) rfl rfl) rfl ?_
 refine sq_gy rfl rfl rfl ?_
 refine sq_split (q_gtr rfl rfl) rfl (fun h3_6 => ?_) (fun h3_6 => ?_)
 ·
  have _tok := trivial
  refine sqT rfl rfl rfl ?_
  refine sqK [0, 1, 22] rfl ?_
  refine sc_cond_t rfl ?_
  refine scR ?_
  refine sqA rfl rfl ?_
  refine sqK [4] rfl ?_
  refine sc_ret ?_
  refine se_then_ret ?_
  exact se_end (res1 Tryd.results40 rfl) (fun w' hw => ⟨_, rfl, hw.same_of, .inl ⟨rfl, by omega⟩⟩)
 refine sqT rfl rfl rfl ?_
 refine sqK [0, 1, 22] rfl ?_
 refine sc_cond_f rfl ?_
 refine scS ?_
 refine scK [0, 1] rfl ?_
 refine sc_seq ?_
 refine scR ?_
 iterate 2 refine sqM rfl rfl ?_
 refine sq_q (q_mul (a := (c : Int)) (b := (8 : Int)) (r := ((c * 8 : Nat) : Int)) rfl rfl (w_u64e (by omega) (by omega) (by omega))) rfl ?_
 refine sq_split (q_gtr rfl rfl) rfl (fun h5_3 => ?_) (fun h5_3 => ?_)
 ·
  have _tok := trivial
  refine sqK [0, 1, 26] rfl ?_
  refine sc_cond_t rfl ?_
  refine scR ?_
  refine sqM rfl rfl ?_
  refine sq_q (q_quoN (a := 10485760) (b := 8) (r := 1310720) rfl rfl (by omega) rfl rfl) rfl ?_
  refine sqA rfl rfl ?_
  refine sqKR [1] rfl ?_
  refine sqM rfl rfl ?_
  refine sq_q (q_decF (q_eql rfl rfl) (by omega)) rfl ?_
  refine sqK [1, 30] rfl ?_
  refine sc_cond_f rfl ?_
  refine scS ?_
  refine scK [1] rfl ?_
  refine scR ?_
  refine sqM rfl rfl ?_
  refine sq_q (q_conv rfl Tryd.runUnderlying23 Tryd.runUnderlying3 (w_i64 (by omega) (by omega))) rfl ?_
  refine sqA rfl rfl ?_
  refine sqK [4] rfl ?_
  refine sc_ret ?_
  exact se_end (res1 Tryd.results40 rfl) (fun w' hw => ⟨_, rfl, hw.same_of, .inr ⟨_, rfl, by omega⟩⟩)
 refine sqK [0, 1, 26] rfl ?_
 refine sc_cond_f rfl ?_
 refine scS ?_
 refine scK [1] rfl ?_
 refine scR ?_
 refine sqM rfl rfl ?_
 refine sq_q (q_conv rfl Tryd.runUnderlying23 Tryd.runUnderlying3 (w_i64 (by omega) (by omega))) rfl ?_
 refine sqA rfl rfl ?_
 refine sqK [4] rfl ?_
 refine sc_ret ?_
 exact se_end (res1 Tryd.results40 rfl) (fun w' hw => ⟨_, rfl, hw.same_of, .inr ⟨_, rfl, by omega⟩⟩)

theorem cap40_8 {c : Nat} {w : World} (hc : c < 18446744073709551616) : Calls Tryd.prog 40 #[.int .u64 8, .int .u64 (c : Int)] w fun en w' => ∃ r : Int, en = .returned (.int .i64 r) ∧ Same w w' ∧ ((r = -1 ∧ 65536 ≤ c) ∨ ∃ k : Nat, r = k ∧ k ≤ 1310720) := by
 by_cases h : c < 9223372036854775808
 ·
  exact cap40_8_s h
 ·
  exact (cap40_8_neg (by omega) hc).mono fun en w' ⟨h1, h2⟩ => ⟨_, h1, h2, .inl ⟨rfl, by omega⟩⟩

theorem cap40_120_neg {c : Nat} {w : World} (hc : 9223372036854775808 ≤ c) (hc2 : c < 18446744073709551616) : Calls Tryd.prog 40 #[.int .u64 120, .int .u64 (c : Int)] w fun en w' => en = .returned (.int .i64 (-1)) ∧ Same w w' := by
 refine begins E0 Tryd.func40 rfl Tryd.ntmps40 rfl [(0, _), (1, _)] ⟨rfl, rfl, trivial⟩ [] trivial List.nodup_nil ?_
 refine scR ?_
 refine sqA rfl rfl ?_
 refine sqK [0, 1] rfl ?_
 refine sc_seq ?_
 refine scR ?_
 refine sqM rfl rfl ?_
 refine sq_q (q_conv rfl Tryd.runUnderlying23 Tryd.runUnderlying2 (w_i64_hi (by omega) (by omega))) rfl ?_
 refine sq_q (q_decT (q_lss rfl rfl) (by omega)) rfl ?_
 refine sqM rfl rfl ?_
 iterate 5 refine sq_gn rfl rfl rfl rfl ?_
 refine sqT rfl rfl rfl ?_
 refine sqK [0, 1, 14] rfl ?_
 refine sc_cond_t rfl ?_
 refine scR ?_
 refine sqA rfl rfl ?_
 refine sqK [4] rfl ?_
 refine sc_ret ?_
 refine se_then_ret ?_
 exact se_end (res1 Tryd.results40 rfl) (fun w' hw => ⟨rfl, hw.same_of⟩)

theorem cap40_120_s {c : Nat} {w : World} (hc : c < 9223372036854775808) : Calls Tryd.prog 40 #[.int .u64 120, .int .u64 (c : Int)] w fun en w' => ∃ r : Int, en = .returned (.int .i64 r) ∧ Same w w' ∧ ((r = -1 ∧ 65536 ≤ c) ∨ ∃ k : Nat, r = k ∧ k ≤ 1310720) := by
 refine begins E0 Tryd.func40 rfl Tryd.ntmps40 rfl [(0, _), (1, _)] ⟨rfl, rfl, trivial⟩ [] trivial List.nodup_nil ?_
 refine scR ?_
 refine sqA rfl rfl ?_
 refine sqK [0, 1] rfl ?_
 refine sc_seq ?_
 refine scR ?_
 refine sqM rfl rfl ?_
 refine sq_q (q_conv rfl Tryd.runUnderlying23 Tryd.runUnderlying2 (w_i64 (by omega) (by omega))) rfl ?_
 refine sq_q (q_decF (q_lss rfl rfl) (by omega)) rfl ?_
 refine sqM rfl rfl ?_
 refine sq_gy rfl rfl rfl ?_
 refine sqM rfl rfl ?_
 refine sq_gy rfl rfl rfl ?_
 refine sqM rfl rfl ?_
 refine sq_gy rfl rfl rfl ?_
 refine sq_q (q_conv rfl Tryd.runUnderlying23 Tryd.runUnderlying3 (w_i64 (by omega) (by omega))) rfl ?_
 refine sq_gy rfl rfl rfl ?_
 refine sq_q (q_conv rfl Tryd.runUnderlying3 Tryd.runUnderlying23 (w_u64 (by omega) (by omega))) rfl ?_
 refine sq_gy rfl rfl rfl ?_
 refine sq_q (q_decF (q_neq rfl rfl) (by omega)) rfl ?_
 refine sqF rfl rfl rfl ?_
 refine sqK [0, 1, 14] rfl ?_
 refine sc_cond_f rfl ?_
 refine scS ?_
 refine scK [0, 1] rfl ?_
 refine sc_seq ?_
 refine scR ?_
 refine sqM rfl rfl ?_
 refine sq_q (q_decT (q_gtr rfl rfl) (by omega)) rfl ?_
 refine sqM rfl rfl ?_
 refine sq_gy rfl rfl rfl ?_
 refine sqM rfl rfl ?_
 refine sq_gy rfl rfl rfl ?_
 refine sqM rfl rfl ?_
 refine sq_gy rfl rfl rfl ?_
 refine sq_q (q_quoN (a := 18446744073709551615) (b := 120) (r := 153722867280912930) rfl rfl (by omega) rfl rfl) rfl ?_
 refine sq_gy rfl rfl rfl ?_
 refine sq_split (q_gtr rfl rfl) rfl (fun h3_6 => ?_) (fun h3_6 => ?_)
 ·
  have _tok := trivial
  refine sqT rfl rfl rfl ?_
  refine sqK [0, 1, 22] rfl ?_
  refine sc_cond_t rfl ?_
  refine scR ?_
  refine sqA rfl rfl ?_
  refine sqK [4] rfl ?_
  refine sc_ret ?_
  refine se_then_ret ?_
  exact se_end (res1 Tryd.results40 rfl) (fun w' hw => ⟨_, rfl, hw.same_of, .inl ⟨rfl, by omega⟩⟩)
 refine sqT rfl rfl rfl ?_
 refine sqK [0, 1, 22] rfl ?_
 refine sc_cond_f rfl ?_
 refine scS ?_
 refine scK [0, 1] rfl ?_
 refine sc_seq ?_
 refine scR ?_
 iterate 2 refine sqM rfl rfl ?_
 refine sq_q (q_mul (a := (c : Int)) (b := (120 : Int)) (r := ((c * 120 : Nat) : Int)) rfl rfl (w_u64e (by omega) (by omega) (by omega))) rfl ?_
 refine sq_split (q_gtr rfl rfl) rfl (fun h5_3 => ?_) (fun h5_3 => ?_)
 ·
  have _tok := trivial
  refine sqK [0, 1, 26] rfl ?_
  refine sc_cond_t rfl ?_
  refine scR ?_
  refine sqM rfl rfl ?_
  refine sq_q (q_quoN (a := 10485760) (b := 120) (r := 87381) rfl rfl (by omega) rfl rfl) rfl ?_
  refine sqA rfl rfl ?_
  refine sqKR [1] rfl ?_
  refine sqM rfl rfl ?_
  refine sq_q (q_decF (q_eql rfl rfl) (by omega)) rfl ?_
  refine sqK [1, 30] rfl ?_
  refine sc_cond_f rfl ?_
  refine scS ?_
  refine scK [1] rfl ?_
  refine scR ?_
  refine sqM rfl rfl ?_
  refine sq_q (q_conv rfl Tryd.runUnderlying23 Tryd.runUnderlying3 (w_i64 (by omega) (by omega))) rfl ?_
  refine sqA rfl rfl ?_
  refine sqK [4] rfl ?_
  refine sc_ret ?_
  exact se_end (res1 Tryd.results40 rfl) (fun w' hw => ⟨_, rfl, hw.same_of, .inr ⟨_, rfl, by omega⟩⟩)
 refine sqK [0, 1, 26] rfl ?_
 refine sc_cond_f rfl ?_
 refine scS ?_
 refine scK [1] rfl ?_
 refine scR ?_
 refine sqM rfl rfl ?_
 refine sq_q (q_conv rfl Tryd.runUnderlying23 Tryd.runUnderlying3 (w_i64 (by omega) (by omega))) rfl ?_
 refine sqA rfl rfl ?_
 refine sqK [4] rfl ?_
 refine sc_ret ?_
 exact se_end (res1 Tryd.results40 rfl) (fun w' hw => ⟨_, rfl, hw.same_of, .inr ⟨_, rfl, by omega⟩⟩)

theorem cap40_120 {c : Nat} {w : World} (hc : c < 18446744073709551616) : Calls Tryd.prog 40 #[.int .u64 120, .int .u64 (c : Int)] w fun en w' => ∃ r : Int, en = .returned (.int .i64 r) ∧ Same w w' ∧ ((r = -1 ∧ 65536 ≤ c) ∨ ∃ k : Nat, r = k ∧ k ≤ 1310720) := by
 by_cases h : c < 9223372036854775808
 ·
  exact cap40_120_s h
 ·
  exact (cap40_120_neg (by omega) hc).mono fun en w' ⟨h1, h2⟩ => ⟨_, h1, h2, .inl ⟨rfl, by omega⟩⟩

theorem str42 {b c s : Nat} {xs : List UInt8} {e : TypeId} {fr : Nat × Nat} {w : World} (hb : w.heap[b]? = some (.cells (xs.map u8v).toArray e fr)) (hc : xs.length ≤ c) (hx : xs.length ≤ 9223372036854775806) (hs : s ≤ 9223372036854775807) :
  Calls Tryd.prog 42 #[.slice (some ⟨b, 0, none⟩) xs.length c, .int .i64 (s : Nat)] w fun en w' =>
   ((xs.length ≤ s ∨ textFrom (xs.drop s) = none) ∧ en = .returned (.tuple #[.string ⟨#[]⟩, .bool false]) ∧ Same w w') ∨ (s < xs.length ∧ ∃ t, textFrom (xs.drop s) = some t ∧ en = .returned (.tuple #[.string (strB t), .bool true]) ∧ Same w w') := by
 refine begins E0 Tryd.func42 rfl Tryd.ntmps42 rfl [(0, _), (1, _)] ⟨rfl, rfl, trivial⟩ [(b, .cells (xs.map u8v).toArray e fr)] ⟨hb, trivial⟩ (by simp) ?_
 refine scR ?_
 iterate 2 refine sqA rfl rfl ?_
 refine sqK [0, 1] rfl ?_
 refine sc_seq ?_
 refine scR ?_
 refine sqM rfl rfl ?_
 refine sq_q (q_decF (q_lss rfl rfl) (by omega)) rfl ?_
 refine sqM rfl rfl ?_
 refine sq_gy rfl rfl rfl ?_
 refine sqM rfl rfl ?_
 refine sq_gy rfl rfl rfl ?_
 refine sqM rfl rfl ?_
 refine sq_gy rfl rfl rfl ?_
 refine sq_q (q_len rfl Tryd.runUnderlying22) rfl ?_
 refine sq_gy rfl rfl rfl ?_
 refine sq_split (q_geq rfl rfl) rfl (fun h1_6 => ?_) (fun h1_6 => ?_)
 ·
  have hge : xs.length ≤ s := by omega
  refine sqF rfl rfl rfl ?_
  refine sqK [0, 1, 14] rfl ?_
  refine sc_cond_t rfl ?_
  refine scR ?_
  iterate 2 refine sqA rfl rfl ?_
  refine sqK [4, 5] rfl ?_
  refine sc_ret ?_
  refine se_then_ret ?_
  exact se_end (res2 Tryd.results42 rfl rfl) (fun w' hw => .inl ⟨Or.inl hge, rfl, hw.same_of⟩)
 have hlt : s < xs.length := by omega
 refine sqF rfl rfl rfl ?_
 refine sqK [0, 1, 14] rfl ?_
 refine sc_cond_f rfl ?_
 refine scS ?_
 refine scK [0, 1] rfl ?_
 refine sc_seq ?_
 refine scR ?_
 refine sqM rfl rfl ?_
 refine sqA rfl rfl ?_
 refine sqK [0, 1, 6] rfl ?_
 refine sc_block ?_
 refine sc_loop (ι := Nat) (fun i => [(0, .slice (some ⟨b, 0, none⟩) xs.length c), (1, .int .i64 (s : Nat)), (6, .int .i64 (i : Nat))]) (fun _ => w.heap.size) (fun _ => [(b, .cells (xs.map u8v).toArray e fr)]) (fun i => s ≤ i ∧ i ≤ xs.length ∧ textFrom (xs.drop s) = (textFrom (xs.drop i)).map ((xs.drop s).take (i - s) ++ ·)) (fun i => xs.length - i) s ⟨⟨Nat.le_refl _, by omega, textFrom_start _ _⟩, ⟨rfl, rfl, rfl, trivial⟩, rfl, fun _ h => h⟩ ?_
 intro i ⟨hsi, hil, hinv⟩
 refine sc_seq ?_
 refine scR ?_
 iterate 2 refine sqM rfl rfl ?_
 refine sq_q (q_len rfl Tryd.runUnderlying22) rfl ?_
 refine sq_split (q_lss rfl rfl) rfl (fun h4_3 => ?_) (fun h4_3 => ?_)
 ·
  have hil2 : i < xs.length := by omega
  obtain ⟨x, hxi⟩ : ∃ x, xs[i]? = some x := ⟨xs[i], List.getElem?_eq_getElem hil2⟩
  have hxu := x.toNat_lt
  refine sqK [0, 1, 6, 19] rfl ?_
  refine sc_cond_t rfl ?_
  refine scS ?_
  refine scK [0, 1, 6] rfl ?_
  refine sc_seq ?_
  refine sc_block ?_
  refine scR ?_
  iterate 2 refine sqM rfl rfl ?_
  refine sq_q (q_index (j := 0 + i) rfl rfl Tryd.runUnderlying22 Tryd.sizeOf5 ⟨by omega, by omega⟩ (by simp)) rfl ?_
  refine sq_q (q_load1 rfl Tryd.isAgg5 (i := 0) rfl (by rw [List.getElem?_map, Nat.zero_add, hxi]; rfl)) rfl ?_
  refine sq_split (q_eql rfl rfl) rfl (fun h6_4 => ?_) (fun h6_4 => ?_)
  ·
   have _tok := trivial
   refine sqK [0, 1, 6, 26] rfl ?_
   refine sc_cond_t rfl ?_
   refine scR ?_
   iterate 3 refine sqM rfl rfl ?_
   refine sq_q (q_slice_lh (j := s) (n' := i - s) (c' := c - s) rfl rfl rfl Tryd.runUnderlying22 Tryd.sizeOf5 (by omega) (by omega) (by omega) (by omega) (by simp) (by simp) (by simp)) rfl ?_
   refine sq_q (q_bstr (i := 0) (xs := (xs.drop s).take (i - s)) rfl rfl Tryd.underlying22 Tryd.underlying5 Tryd.underlying9 (by simp; omega) (by rw [← List.map_drop, ← List.map_take])) rfl ?_
   iterate 2 refine sqA rfl rfl ?_
   refine sqK [4, 5] rfl ?_
   refine sc_ret ?_
   refine se_block_ret ?_
   iterate 2 refine se_then_ret ?_
   refine se_block_ret ?_
   refine se_then_ret ?_
   exact se_end (res2 Tryd.results42 rfl rfl) (fun w' hw => .inr ⟨hlt, _, by rw [textFrom_step hxi hsi hinv, if_pos (by apply UInt8.toNat_inj.1; simp; omega)], rfl, hw.same_of⟩)
  refine sqK [0, 1, 6, 26] rfl ?_
  refine sc_cond_f rfl ?_
  refine sc_skip ?_
  refine se_block ?_
  refine se_seq ?_
  refine scK [0, 1, 6] rfl ?_
  refine sc_region ?_
  refine sqM rfl rfl ?_
  refine sq_q (q_add rfl rfl (w_i64 (by omega) (by omega))) rfl ?_
  refine sqA rfl rfl ?_
  refine sq_nil ?_
  refine se_loop (i + 1) (by omega) ⟨by omega, by omega, by rw [textFrom_step hxi hsi hinv, if_neg (by intro h0; subst h0; simp at h6_4)]⟩ ⟨rfl, rfl, rfl, trivial⟩ (fun _ h => h)
 refine sqK [0, 1, 6, 19] rfl ?_
 refine sc_cond_f rfl ?_
 refine sc_exit ?_
 iterate 2 refine se_then_exit ?_
 refine se_block_hit ?_
 refine se_seq ?_
 refine scK [] rfl ?_
 refine scR ?_
 iterate 2 refine sqA rfl rfl ?_
 refine sqZ ?_
 refine sc_ret ?_
 exact se_end (res2 Tryd.results42 rfl rfl) (fun w' hw => .inl ⟨Or.inr (textFrom_end (by omega) hinv), rfl, hw.same_of⟩)

theorem seek37 {sb cur lim off : Nat} {v nn : Value} {w : World} (hs : w.heap[sb]? = some (srO v 0 cur lim nn)) (hoff : off ≤ 9223372036854775807) :
  Calls Tryd.prog 37 #[.pointer (some ⟨sb, 0, none⟩), .int .i64 (off : Nat), .int .i64 0] w fun en w' => ∃ v', en = .returned v' ∧ Upd w w' sb (srO v 0 off lim nn) := by
 refine begins (fun k => k = sb) Tryd.func37 rfl Tryd.ntmps37 rfl [(0, _), (1, _), (2, _)] ⟨rfl, rfl, rfl, trivial⟩ [(sb, srO v 0 cur lim nn)] ⟨hs, trivial⟩ (by simp) ?_
 refine scR ?_
 iterate 2 refine sqA rfl rfl ?_
 refine sqK [0, 1, 2] rfl ?_
 refine sc_seq ?_
 refine scR ?_
 refine sqM rfl rfl ?_
 refine sqK [0, 1, 8] rfl ?_
 refine sc_block ?_
 refine scR ?_
 refine sq_q (q_decT (q_eql rfl rfl) (rfl)) rfl ?_
 refine sqA rfl rfl ?_
 refine sqK [0, 1, 8, 10] rfl ?_
 refine sc_cond_t rfl ?_
 refine sc_region ?_
 iterate 2 refine sqM rfl rfl ?_
 refine sq_q (q_nil rfl) rfl ?_
 refine sq_q (q_fieldj (j := 1) rfl Tryd.runUnderlying172 rfl Tryd.sizeOf2 rfl) rfl ?_
 refine sq_q (q_load1 rfl Tryd.isAgg2 (i := 0) rfl rfl) rfl ?_
 refine sq_q (q_add (a := (off : Int)) (b := ((0 : Nat) : Int)) (r := ((off : Nat) : Int)) rfl rfl (w_i64e (by omega) (by omega) (by omega))) rfl ?_
 refine sqA rfl rfl ?_
 refine sq_nil ?_
 refine se_block ?_
 refine se_seq ?_
 refine scK [0, 1] rfl ?_
 refine sc_seq ?_
 refine scR ?_
 iterate 2 refine sqM rfl rfl ?_
 refine sq_q (q_nil rfl) rfl ?_
 refine sq_q (q_fieldj (j := 1) rfl Tryd.runUnderlying172 rfl Tryd.sizeOf2 rfl) rfl ?_
 refine sq_q (q_load1 rfl Tryd.isAgg2 (i := 0) rfl rfl) rfl ?_
 refine sq_q (q_decF (q_lss rfl rfl) (by omega)) rfl ?_
 refine sqK [0, 1, 39] rfl ?_
 refine sc_cond_f rfl ?_
 refine scS ?_
 refine scK [0, 1] rfl ?_
 refine scR ?_
 iterate 2 refine sqM rfl rfl ?_
 refine sq_q (q_nil rfl) rfl ?_
 refine sq_q (q_fieldj (j := 2) rfl Tryd.runUnderlying172 rfl Tryd.sizeOf2 rfl) rfl ?_
 refine sq_m0 (m_store rfl rfl Tryd.sizeOf2 rfl (i := 0) rfl rfl rfl (fun _ => rfl)) (fun _ _ => ?_)
 refine sqKR [0, 1] rfl ?_
 iterate 2 refine sqM rfl rfl ?_
 refine sq_q (q_nil rfl) rfl ?_
 refine sq_q (q_fieldj (j := 1) rfl Tryd.runUnderlying172 rfl Tryd.sizeOf2 rfl) rfl ?_
 refine sq_q (q_load1 rfl Tryd.isAgg2 (i := 0) rfl rfl) rfl ?_
 refine sq_q (q_sub (a := (off : Int)) (b := ((0 : Nat) : Int)) (r := ((off : Nat) : Int)) rfl rfl (w_i64e (by omega) (by omega) (by omega))) rfl ?_
 iterate 2 refine sqA rfl rfl ?_
 refine sqK [6, 7] rfl ?_
 refine sc_ret ?_
 exact se_end (res2 Tryd.results37 rfl rfl) (fun w' hw => ⟨_, rfl, hw.upd_of (by simp)⟩)

end Go.Proofs.YtgkjnkhoopcjgaaDoor
/- readSection32 and readSection64. Conditions: what they read lies in memory; places and lengths fit. -/
namespace Go.Proofs.YtgkjnkhoopcjgaaDoor
open Go.Sx
set_option maxRecDepth 100000

theorem At_lay {xs : List UInt8} {n : Nat} {v : Value} (h : xs.length = n) (o s : Nat) : At (lay (List.replicate n v) 0 xs) o ((xs.drop o).take s) := by
 rw [lay_all _ _ (by rw [List.length_replicate]; exact h)]; exact At_map xs o s
theorem cut_len {xs : List UInt8} {n o s : Nat} (h : xs.length = n) (hs : o + s ≤ n) : ((xs.drop o).take s).length = s := by simp; omega

def sec32L (big : Bool) (xs : List UInt8) : List Value := [.int .u32 ((fld big xs 0 4 : Nat) : Int), .int .u32 ((fld big xs 4 4 : Nat) : Int), .int .u32 ((fld big xs 8 4 : Nat) : Int), .int .u32 ((fld big xs 12 4 : Nat) : Int), .int .u32 ((fld big xs 16 4 : Nat) : Int), .int .u32 ((fld big xs 20 4 : Nat) : Int), .int .u32 ((fld big xs 24 4 : Nat) : Int), .int .u32 ((fld big xs 28 4 : Nat) : Int), .int .u32 ((fld big xs 32 4 : Nat) : Int), .int .u32 ((fld big xs 36 4 : Nat) : Int)]
theorem sec32 {g gu : Gx} {t : TypeId} {u : Value} {ms : MM} {R : Nat → Nat → List UInt8 → Value → Prop} (h : RC g t u ms R) (big : Bool) {sb pb base cur lim : Nat} {nn : Value} {l0 : List Value} {e0 : TypeId} {w : World} (hlim : lim ≤ 9223372036854775807) (hcur : cur ≤ 9223372036854775807)
  (hfull : ∀ xs e, TR g R lim cur 40 xs e → e = .nilIface → xs.length = 40) (hnd0 : (((sb, srO (.iface t u) base cur lim nn) :: (pb, .cells l0.toArray e0 (0, 0)) :: (1, g.o) :: (0, gu.o) :: ms).map Prod.fst).Nodup) (hms : Has ((sb, srO (.iface t u) base cur lim nn) :: (pb, .cells l0.toArray e0 (0, 0)) :: (1, g.o) :: (0, gu.o) :: ms) w) (hl0 : l0.length = 10) :
  Calls Tryd.prog 38 #[.iface 81 (.pointer (some ⟨sb, 0, none⟩)), .int .u8 (ordN big), .pointer (some ⟨pb, 0, none⟩)] w fun en w' =>
   (∃ xs : List UInt8, xs.length = 40 ∧ en = .returned .nilIface ∧ Eff (fun k => k = sb ∨ k = pb) w w' ∧ w'.heap[sb]? = some (srO (.iface t u) base (cur + xs.length) lim nn) ∧ w'.heap[pb]? = some (.cells (sec32L big xs).toArray e0 (0, 0))) ∨
    ((∃ t u, en = .returned (.iface t u)) ∧ Eff (fun k => k = sb ∨ k = pb) w w') := by
 have hfr : ∀ p ∈ (sb, srO (.iface t u) base cur lim nn) :: (pb, .cells l0.toArray e0 (0, 0)) :: (1, g.o) :: (0, gu.o) :: ms, p.1 < w.heap.size := hms.below
 have hndN : (sb :: w.heap.size :: 1 :: 0 :: ms.map Prod.fst).Nodup := by
  have := nodup_fresh hms hnd0
  simp only [List.map_cons, List.nodup_cons, List.mem_cons, not_or] at this ⊢
  obtain ⟨⟨a1, a2, a3, a4, a5⟩, ⟨b1, b2, b3, b4⟩, ⟨c1, c2, c3⟩, ⟨d1, d2⟩, e1, e2⟩ := this
  exact ⟨⟨Ne.symm a1, b2, b3, b4⟩, ⟨a3, a4, a5⟩, ⟨d1, d2⟩, e1, e2⟩
 have hmrn : (((pb, Obj.cells l0.toArray e0 (0, 0)) :: (1, g.o) :: (0, gu.o) :: ms).map Prod.fst).Nodup := (List.nodup_cons.1 hnd0).2
 have hrr : ∀ p ∈ (pb, Obj.cells l0.toArray e0 (0, 0)) :: (1, g.o) :: (0, gu.o) :: ms, p.1 ≠ sb ∧ p.1 ≠ w.heap.size := fun p hp =>
  ⟨fun he => (List.nodup_cons.1 hnd0).1 (by have h9 := List.mem_map_of_mem (f := Prod.fst) hp; rw [he] at h9; exact h9), Nat.ne_of_lt (hfr p (by simp only [List.mem_cons] at hp ⊢; exact .inr hp))⟩
 refine enter (E := fun k => k = sb ∨ k = pb) Tryd.func38 rfl Tryd.ntmps38 (Nat.le_of_ble_eq_true rfl) [(0, _), (1, _), (2, _)] (AOk.get («as» := [_, _, _]) ⟨rfl, rfl, rfl, trivial⟩) ((sb, srO (.iface t u) base cur lim nn) :: (pb, .cells l0.toArray e0 (0, 0)) :: (1, g.o) :: (0, gu.o) :: ms) hms hnd0 ?_
 refine scR ?_
 refine sqA rfl rfl ?_
 refine sqKR [0, 1, 2] rfl ?_
 refine sq_m (m_make (kl := .i64) (kc := .i64) (len := 40) (cap := 40) rfl rfl Tryd.underlying22 (i := Tryd.t5) (z := .int .u8 0) (by kernel_rfl) (by kernel_rfl) (by kernel_rfl) rfl (Nat.le_refl _) (mk_fits (by omega)) (by omega)) rfl (fun _ _ => ?_)
 refine sqA rfl rfl ?_
 refine sqK [0, 1, 2, 7] rfl ?_
 refine sc_seq ?_
 refine scR ?_
 iterate 2 refine sqM rfl rfl ?_
 refine sq_m (full_inv (gu := gu) h (m := 40) (l := List.replicate 40 (.int .u8 0)) (mr := (pb, .cells l0.toArray e0 (0, 0)) :: (1, g.o) :: (0, gu.o) :: ms) hlim hcur hfull hndN (fun p hp => by simp [hp]) (by simp) (by simp) hrr hmrn rfl rfl (by rw [List.length_replicate]; omega) (by omega) (by omega) (fun k hk hlt => hk.elim .inl (fun hk => absurd hlt (by omega)))) rfl (fun z hz => ?_)
 refine sqM rfl rfl ?_
 iterate 2 refine sq_q (q_extract rfl rfl) rfl ?_
 iterate 2 refine sqA rfl rfl ?_
 obtain ⟨xs, e0, N2⟩ := z
 have hFR : FR g R lim cur 40 xs e0 := hz.1
 rcases hFR.1 with ⟨rfl, hx⟩ | ⟨hx, t2, u2, rfl⟩
 ·
  have _tok := trivial
  refine sqKR [1, 2, 7, 9] rfl ?_
  refine sqM rfl rfl ?_
  refine sq_q (q_nil_neq_nil rfl Tryd.runUnderlying86) rfl ?_
  refine sqK [1, 2, 7, 9, 18] rfl ?_
  refine sc_cond_f rfl ?_
  refine scS ?_
  refine scK [1, 2, 7] rfl ?_
  refine sc_seq ?_
  refine sc_draw [0, 1, 2, 3, 4, 5, 6, 7, 8, 9, 10, 11, 12, 13, 14, 15, 16, 17, 18, 19, 20, 21, 22, 23, 24, 25, 26, 27, 28, 29, 30, 31, 32, 33, 34, 35, 36, 37, 38, 39, 40, 41, 42] [42] [(w.heap.size, .cells (lay (List.replicate 40 (.int .u8 0)) 0 xs).toArray 5 (0, 0))] mixed (by kernel_rfl) (by kernel_rfl) (fun _ h => by simp at h; simp [h]) ?_
  iterate 3 refine drM rfl rfl rfl ?_
  refine dr_q rfl rfl (q_call (v := .int .u32 ((fld big xs 0 4 : Nat) : Int)) (args2 rfl rfl) Tryd.call35 (fun w9 hw => rd32 big (o := 0) (hw.get (i := 0) rfl) (by omega) (by omega) (cut_len hx (by omega)) (At_lay hx 0 4))) ?_
  iterate 2 refine drM rfl rfl rfl ?_
  refine dr_q rfl rfl (q_slice_k (l := 4) (j := 4) rfl rfl Tryd.runUnderlying22 Tryd.sizeOf5 (by omega) (by omega) rfl) ?_
  refine dr_q rfl rfl (q_call (v := .int .u32 ((fld big xs 4 4 : Nat) : Int)) (args2 rfl rfl) Tryd.call35 (fun w9 hw => rd32 big (o := 4) (hw.get (i := 0) rfl) (by omega) (by omega) (cut_len hx (by omega)) (At_lay hx 4 4))) ?_
  iterate 2 refine drM rfl rfl rfl ?_
  refine dr_q rfl rfl (q_slice_k (l := 8) (j := 8) rfl rfl Tryd.runUnderlying22 Tryd.sizeOf5 (by omega) (by omega) rfl) ?_
  refine dr_q rfl rfl (q_call (v := .int .u32 ((fld big xs 8 4 : Nat) : Int)) (args2 rfl rfl) Tryd.call35 (fun w9 hw => rd32 big (o := 8) (hw.get (i := 0) rfl) (by omega) (by omega) (cut_len hx (by omega)) (At_lay hx 8 4))) ?_
  iterate 2 refine drM rfl rfl rfl ?_
  refine dr_q rfl rfl (q_slice_k (l := 12) (j := 12) rfl rfl Tryd.runUnderlying22 Tryd.sizeOf5 (by omega) (by omega) rfl) ?_
  refine dr_q rfl rfl (q_call (v := .int .u32 ((fld big xs 12 4 : Nat) : Int)) (args2 rfl rfl) Tryd.call35 (fun w9 hw => rd32 big (o := 12) (hw.get (i := 0) rfl) (by omega) (by omega) (cut_len hx (by omega)) (At_lay hx 12 4))) ?_
  iterate 2 refine drM rfl rfl rfl ?_
  refine dr_q rfl rfl (q_slice_k (l := 16) (j := 16) rfl rfl Tryd.runUnderlying22 Tryd.sizeOf5 (by omega) (by omega) rfl) ?_
  refine dr_q rfl rfl (q_call (v := .int .u32 ((fld big xs 16 4 : Nat) : Int)) (args2 rfl rfl) Tryd.call35 (fun w9 hw => rd32 big (o := 16) (hw.get (i := 0) rfl) (by omega) (by omega) (cut_len hx (by omega)) (At_lay hx 16 4))) ?_
  iterate 2 refine drM rfl rfl rfl ?_
  refine dr_q rfl rfl (q_slice_k (l := 20) (j := 20) rfl rfl Tryd.runUnderlying22 Tryd.sizeOf5 (by omega) (by omega) rfl) ?_
  refine dr_q rfl rfl (q_call (v := .int .u32 ((fld big xs 20 4 : Nat) : Int)) (args2 rfl rfl) Tryd.call35 (fun w9 hw => rd32 big (o := 20) (hw.get (i := 0) rfl) (by omega) (by omega) (cut_len hx (by omega)) (At_lay hx 20 4))) ?_
  iterate 2 refine drM rfl rfl rfl ?_
  refine dr_q rfl rfl (q_slice_k (l := 24) (j := 24) rfl rfl Tryd.runUnderlying22 Tryd.sizeOf5 (by omega) (by omega) rfl) ?_
  refine dr_q rfl rfl (q_call (v := .int .u32 ((fld big xs 24 4 : Nat) : Int)) (args2 rfl rfl) Tryd.call35 (fun w9 hw => rd32 big (o := 24) (hw.get (i := 0) rfl) (by omega) (by omega) (cut_len hx (by omega)) (At_lay hx 24 4))) ?_
  iterate 2 refine drM rfl rfl rfl ?_
  refine dr_q rfl rfl (q_slice_k (l := 28) (j := 28) rfl rfl Tryd.runUnderlying22 Tryd.sizeOf5 (by omega) (by omega) rfl) ?_
  refine dr_q rfl rfl (q_call (v := .int .u32 ((fld big xs 28 4 : Nat) : Int)) (args2 rfl rfl) Tryd.call35 (fun w9 hw => rd32 big (o := 28) (hw.get (i := 0) rfl) (by omega) (by omega) (cut_len hx (by omega)) (At_lay hx 28 4))) ?_
  iterate 2 refine drM rfl rfl rfl ?_
  refine dr_q rfl rfl (q_slice_k (l := 32) (j := 32) rfl rfl Tryd.runUnderlying22 Tryd.sizeOf5 (by omega) (by omega) rfl) ?_
  refine dr_q rfl rfl (q_call (v := .int .u32 ((fld big xs 32 4 : Nat) : Int)) (args2 rfl rfl) Tryd.call35 (fun w9 hw => rd32 big (o := 32) (hw.get (i := 0) rfl) (by omega) (by omega) (cut_len hx (by omega)) (At_lay hx 32 4))) ?_
  iterate 2 refine drM rfl rfl rfl ?_
  refine dr_q rfl rfl (q_slice_k (l := 36) (j := 36) rfl rfl Tryd.runUnderlying22 Tryd.sizeOf5 (by omega) (by omega) rfl) ?_
  refine dr_q rfl rfl (q_call (v := .int .u32 ((fld big xs 36 4 : Nat) : Int)) (args2 rfl rfl) Tryd.call35 (fun w9 hw => rd32 big (o := 36) (hw.get (i := 0) rfl) (by omega) (by omega) (cut_len hx (by omega)) (At_lay hx 36 4))) ?_
  refine dr_q rfl rfl (q_build (vs := [(0, .int .u32 ((fld big xs 0 4 : Nat) : Int)), (1, .int .u32 ((fld big xs 4 4 : Nat) : Int)), (2, .int .u32 ((fld big xs 8 4 : Nat) : Int)), (3, .int .u32 ((fld big xs 12 4 : Nat) : Int)), (4, .int .u32 ((fld big xs 16 4 : Nat) : Int)), (5, .int .u32 ((fld big xs 20 4 : Nat) : Int)), (6, .int .u32 ((fld big xs 24 4 : Nat) : Int)), (7, .int .u32 ((fld big xs 28 4 : Nat) : Int)), (8, .int .u32 ((fld big xs 32 4 : Nat) : Int)), (9, .int .u32 ((fld big xs 36 4 : Nat) : Int))]) (cs := #[.int .u32 ((fld big xs 0 4 : Nat) : Int), .int .u32 ((fld big xs 4 4 : Nat) : Int), .int .u32 ((fld big xs 8 4 : Nat) : Int), .int .u32 ((fld big xs 12 4 : Nat) : Int), .int .u32 ((fld big xs 16 4 : Nat) : Int), .int .u32 ((fld big xs 20 4 : Nat) : Int), .int .u32 ((fld big xs 24 4 : Nat) : Int), .int .u32 ((fld big xs 28 4 : Nat) : Int), .int .u32 ((fld big xs 32 4 : Nat) : Int), .int .u32 ((fld big xs 36 4 : Nat) : Int)]) ⟨rfl, rfl, rfl, rfl, rfl, rfl, rfl, rfl, rfl, rfl, rfl, rfl, rfl, rfl, rfl, rfl, rfl, rfl, rfl, rfl, trivial⟩ (fun _ => by kernel_rfl)) ?_
  refine dr_q rfl rfl (q_nil rfl) ?_
  refine dr_m0 rfl rfl (m_stores (i := 2) (vs := [.int .u32 ((fld big xs 0 4 : Nat) : Int), .int .u32 ((fld big xs 4 4 : Nat) : Int), .int .u32 ((fld big xs 8 4 : Nat) : Int), .int .u32 ((fld big xs 12 4 : Nat) : Int), .int .u32 ((fld big xs 16 4 : Nat) : Int), .int .u32 ((fld big xs 20 4 : Nat) : Int), .int .u32 ((fld big xs 24 4 : Nat) : Int), .int .u32 ((fld big xs 28 4 : Nat) : Int), .int .u32 ((fld big xs 32 4 : Nat) : Int), .int .u32 ((fld big xs 36 4 : Nat) : Int)]) (l' := [.int .u32 ((fld big xs 0 4 : Nat) : Int), .int .u32 ((fld big xs 4 4 : Nat) : Int), .int .u32 ((fld big xs 8 4 : Nat) : Int), .int .u32 ((fld big xs 12 4 : Nat) : Int), .int .u32 ((fld big xs 16 4 : Nat) : Int), .int .u32 ((fld big xs 20 4 : Nat) : Int), .int .u32 ((fld big xs 24 4 : Nat) : Int), .int .u32 ((fld big xs 28 4 : Nat) : Int), .int .u32 ((fld big xs 32 4 : Nat) : Int), .int .u32 ((fld big xs 36 4 : Nat) : Int)]) rfl rfl Tryd.sizeOf147 rfl rfl rfl (by omega) (by rw [List.take_zero, List.nil_append, List.drop_of_length_le (by omega), List.append_nil]) rfl (fun _ => .inr rfl)) (fun _ _ p hp => by simp at hp; simp [hp]) (fun _ _ => ?_)
  refine dr_nil ?_
  refine se_seq ?_
  refine scK [] rfl ?_
  refine scR ?_
  refine sqA rfl rfl ?_
  refine sqZ ?_
  refine sc_ret ?_
  exact se_end (res1 Tryd.results38 rfl) (fun w' hw => .inl ⟨xs, hx, rfl, hw.eff, hw.get (i := 1) rfl, hw.get (i := 2) rfl⟩)
 refine sqKR [1, 2, 7, 9] rfl ?_
 refine sqM rfl rfl ?_
 refine sq_q (q_iface_neq_nil rfl rfl Tryd.runUnderlying86) rfl ?_
 refine sqK [1, 2, 7, 9, 18] rfl ?_
 refine sc_cond_t rfl ?_
 refine scR ?_
 refine sqM rfl rfl ?_
 refine sqA rfl rfl ?_
 refine sqK [6] rfl ?_
 refine sc_ret ?_
 refine se_then_ret ?_
 exact se_end (res1 Tryd.results38 rfl) (fun w' hw => .inr ⟨⟨_, _, rfl⟩, hw.eff⟩)

def sec64L (big : Bool) (xs : List UInt8) : List Value := [.int .u32 ((fld big xs 0 4 : Nat) : Int), .int .u32 ((fld big xs 4 4 : Nat) : Int), .int .u64 ((fld big xs 8 8 : Nat) : Int), .int .u64 ((fld big xs 16 8 : Nat) : Int), .int .u64 ((fld big xs 24 8 : Nat) : Int), .int .u64 ((fld big xs 32 8 : Nat) : Int), .int .u32 ((fld big xs 40 4 : Nat) : Int), .int .u32 ((fld big xs 44 4 : Nat) : Int), .int .u64 ((fld big xs 48 8 : Nat) : Int), .int .u64 ((fld big xs 56 8 : Nat) : Int)]
theorem sec64 {g gu : Gx} {t : TypeId} {u : Value} {ms : MM} {R : Nat → Nat → List UInt8 → Value → Prop} (h : RC g t u ms R) (big : Bool) {sb pb base cur lim : Nat} {nn : Value} {l0 : List Value} {e0 : TypeId} {w : World} (hlim : lim ≤ 9223372036854775807) (hcur : cur ≤ 9223372036854775807)
  (hfull : ∀ xs e, TR g R lim cur 64 xs e → e = .nilIface → xs.length = 64) (hnd0 : (((sb, srO (.iface t u) base cur lim nn) :: (pb, .cells l0.toArray e0 (0, 0)) :: (1, g.o) :: (0, gu.o) :: ms).map Prod.fst).Nodup) (hms : Has ((sb, srO (.iface t u) base cur lim nn) :: (pb, .cells l0.toArray e0 (0, 0)) :: (1, g.o) :: (0, gu.o) :: ms) w) (hl0 : l0.length = 10) :
  Calls Tryd.prog 39 #[.iface 81 (.pointer (some ⟨sb, 0, none⟩)), .int .u8 (ordN big), .pointer (some ⟨pb, 0, none⟩)] w fun en w' =>
   (∃ xs : List UInt8, xs.length = 64 ∧ en = .returned .nilIface ∧ Eff (fun k => k = sb ∨ k = pb) w w' ∧ w'.heap[sb]? = some (srO (.iface t u) base (cur + xs.length) lim nn) ∧ w'.heap[pb]? = some (.cells (sec64L big xs).toArray e0 (0, 0))) ∨
    ((∃ t u, en = .returned (.iface t u)) ∧ Eff (fun k => k = sb ∨ k = pb) w w') := by
 have hfr : ∀ p ∈ (sb, srO (.iface t u) base cur lim nn) :: (pb, .cells l0.toArray e0 (0, 0)) :: (1, g.o) :: (0, gu.o) :: ms, p.1 < w.heap.size := hms.below
 have hndN : (sb :: w.heap.size :: 1 :: 0 :: ms.map Prod.fst).Nodup := by
  have := nodup_fresh hms hnd0
  simp only [List.map_cons, List.nodup_cons, List.mem_cons, not_or] at this ⊢
  obtain ⟨⟨a1, a2, a3, a4, a5⟩, ⟨b1, b2, b3, b4⟩, ⟨c1, c2, c3⟩, ⟨d1, d2⟩, e1, e2⟩ := this
  exact ⟨⟨Ne.symm a1, b2, b3, b4⟩, ⟨a3, a4, a5⟩, ⟨d1, d2⟩, e1, e2⟩
 have hmrn : (((pb, Obj.cells l0.toArray e0 (0, 0)) :: (1, g.o) :: (0, gu.o) :: ms).map Prod.fst).Nodup := (List.nodup_cons.1 hnd0).2
 have hrr : ∀ p ∈ (pb, Obj.cells l0.toArray e0 (0, 0)) :: (1, g.o) :: (0, gu.o) :: ms, p.1 ≠ sb ∧ p.1 ≠ w.heap.size := fun p hp =>
  ⟨fun he => (List.nodup_cons.1 hnd0).1 (by have h9 := List.mem_map_of_mem (f := Prod.fst) hp; rw [he] at h9; exact h9), Nat.ne_of_lt (hfr p (by simp only [List.mem_cons] at hp ⊢; exact .inr hp))⟩
 refine enter (E := fun k => k = sb ∨ k = pb) Tryd.func39 rfl Tryd.ntmps39 (Nat.le_of_ble_eq_true rfl) [(0, _), (1, _), (2, _)] (AOk.get («as» := [_, _, _]) ⟨rfl, rfl, rfl, trivial⟩) ((sb, srO (.iface t u) base cur lim nn) :: (pb, .cells l0.toArray e0 (0, 0)) :: (1, g.o) :: (0, gu.o) :: ms) hms hnd0 ?_
 refine scR ?_
 refine sqA rfl rfl ?_
 refine sqKR [0, 1, 2] rfl ?_
 refine sq_m (m_make (kl := .i64) (kc := .i64) (len := 64) (cap := 64) rfl rfl Tryd.underlying22 (i := Tryd.t5) (z := .int .u8 0) (by kernel_rfl) (by kernel_rfl) (by kernel_rfl) rfl (Nat.le_refl _) (mk_fits (by omega)) (by omega)) rfl (fun _ _ => ?_)
 refine sqA rfl rfl ?_
 refine sqK [0, 1, 2, 7] rfl ?_
 refine sc_seq ?_
 refine scR ?_
 iterate 2 refine sqM rfl rfl ?_
 refine sq_m (full_inv (gu := gu) h (m := 64) (l := List.replicate 64 (.int .u8 0)) (mr := (pb, .cells l0.toArray e0 (0, 0)) :: (1, g.o) :: (0, gu.o) :: ms) hlim hcur hfull hndN (fun p hp => by simp [hp]) (by simp) (by simp) hrr hmrn rfl rfl (by rw [List.length_replicate]; omega) (by omega) (by omega) (fun k hk hlt => hk.elim .inl (fun hk => absurd hlt (by omega)))) rfl (fun z hz => ?_)
 refine sqM rfl rfl ?_
 iterate 2 refine sq_q (q_extract rfl rfl) rfl ?_
 iterate 2 refine sqA rfl rfl ?_
 obtain ⟨xs, e0, N2⟩ := z
 have hFR : FR g R lim cur 64 xs e0 := hz.1
 rcases hFR.1 with ⟨rfl, hx⟩ | ⟨hx, t2, u2, rfl⟩
 ·
  have _tok := trivial
  refine sqKR [1, 2, 7, 9] rfl ?_
  refine sqM rfl rfl ?_
  refine sq_q (q_nil_neq_nil rfl Tryd.runUnderlying86) rfl ?_
  refine sqK [1, 2, 7, 9, 18] rfl ?_
  refine sc_cond_f rfl ?_
  refine scS ?_
  refine scK [1, 2, 7] rfl ?_
  refine sc_seq ?_
  refine sc_draw [0, 1, 2, 3, 4, 5, 6, 7, 8, 9, 10, 11, 12, 13, 14, 15, 16, 17, 18, 19, 20, 21, 22, 23, 24, 25, 26, 27, 28, 29, 30, 31, 32, 33, 34, 35, 36, 37, 38, 39, 40, 41, 42] [42] [(w.heap.size, .cells (lay (List.replicate 64 (.int .u8 0)) 0 xs).toArray 5 (0, 0))] mixed (by kernel_rfl) (by kernel_rfl) (fun _ h => by simp at h; simp [h]) ?_
  iterate 3 refine drM rfl rfl rfl ?_
  refine dr_q rfl rfl (q_call (v := .int .u32 ((fld big xs 0 4 : Nat) : Int)) (args2 rfl rfl) Tryd.call35 (fun w9 hw => rd32 big (o := 0) (hw.get (i := 0) rfl) (by omega) (by omega) (cut_len hx (by omega)) (At_lay hx 0 4))) ?_
  iterate 2 refine drM rfl rfl rfl ?_
  refine dr_q rfl rfl (q_slice_k (l := 4) (j := 4) rfl rfl Tryd.runUnderlying22 Tryd.sizeOf5 (by omega) (by omega) rfl) ?_
  refine dr_q rfl rfl (q_call (v := .int .u32 ((fld big xs 4 4 : Nat) : Int)) (args2 rfl rfl) Tryd.call35 (fun w9 hw => rd32 big (o := 4) (hw.get (i := 0) rfl) (by omega) (by omega) (cut_len hx (by omega)) (At_lay hx 4 4))) ?_
  iterate 2 refine drM rfl rfl rfl ?_
  refine dr_q rfl rfl (q_slice_k (l := 8) (j := 8) rfl rfl Tryd.runUnderlying22 Tryd.sizeOf5 (by omega) (by omega) rfl) ?_
  refine dr_q rfl rfl (q_call (v := .int .u64 ((fld big xs 8 8 : Nat) : Int)) (args2 rfl rfl) Tryd.call36 (fun w9 hw => rd64 big (o := 8) (hw.get (i := 0) rfl) (by omega) (by omega) (cut_len hx (by omega)) (At_lay hx 8 8))) ?_
  iterate 2 refine drM rfl rfl rfl ?_
  refine dr_q rfl rfl (q_slice_k (l := 16) (j := 16) rfl rfl Tryd.runUnderlying22 Tryd.sizeOf5 (by omega) (by omega) rfl) ?_
  refine dr_q rfl rfl (q_call (v := .int .u64 ((fld big xs 16 8 : Nat) : Int)) (args2 rfl rfl) Tryd.call36 (fun w9 hw => rd64 big (o := 16) (hw.get (i := 0) rfl) (by omega) (by omega) (cut_len hx (by omega)) (At_lay hx 16 8))) ?_
  iterate 2 refine drM rfl rfl rfl ?_
  refine dr_q rfl rfl (q_slice_k (l := 24) (j := 24) rfl rfl Tryd.runUnderlying22 Tryd.sizeOf5 (by omega) (by omega) rfl) ?_
  refine dr_q rfl rfl (q_call (v := .int .u64 ((fld big xs 24 8 : Nat) : Int)) (args2 rfl rfl) Tryd.call36 (fun w9 hw => rd64 big (o := 24) (hw.get (i := 0) rfl) (by omega) (by omega) (cut_len hx (by omega)) (At_lay hx 24 8))) ?_
  iterate 2 refine drM rfl rfl rfl ?_
  refine dr_q rfl rfl (q_slice_k (l := 32) (j := 32) rfl rfl Tryd.runUnderlying22 Tryd.sizeOf5 (by omega) (by omega) rfl) ?_
  refine dr_q rfl rfl (q_call (v := .int .u64 ((fld big xs 32 8 : Nat) : Int)) (args2 rfl rfl) Tryd.call36 (fun w9 hw => rd64 big (o := 32) (hw.get (i := 0) rfl) (by omega) (by omega) (cut_len hx (by omega)) (At_lay hx 32 8))) ?_
  iterate 2 refine drM rfl rfl rfl ?_
  refine dr_q rfl rfl (q_slice_k (l := 40) (j := 40) rfl rfl Tryd.runUnderlying22 Tryd.sizeOf5 (by omega) (by omega) rfl) ?_
  refine dr_q rfl rfl (q_call (v := .int .u32 ((fld big xs 40 4 : Nat) : Int)) (args2 rfl rfl) Tryd.call35 (fun w9 hw => rd32 big (o := 40) (hw.get (i := 0) rfl) (by omega) (by omega) (cut_len hx (by omega)) (At_lay hx 40 4))) ?_
  iterate 2 refine drM rfl rfl rfl ?_
  refine dr_q rfl rfl (q_slice_k (l := 44) (j := 44) rfl rfl Tryd.runUnderlying22 Tryd.sizeOf5 (by omega) (by omega) rfl) ?_
  refine dr_q rfl rfl (q_call (v := .int .u32 ((fld big xs 44 4 : Nat) : Int)) (args2 rfl rfl) Tryd.call35 (fun w9 hw => rd32 big (o := 44) (hw.get (i := 0) rfl) (by omega) (by omega) (cut_len hx (by omega)) (At_lay hx 44 4))) ?_
  iterate 2 refine drM rfl rfl rfl ?_
  refine dr_q rfl rfl (q_slice_k (l := 48) (j := 48) rfl rfl Tryd.runUnderlying22 Tryd.sizeOf5 (by omega) (by omega) rfl) ?_
  refine dr_q rfl rfl (q_call (v := .int .u64 ((fld big xs 48 8 : Nat) : Int)) (args2 rfl rfl) Tryd.call36 (fun w9 hw => rd64 big (o := 48) (hw.get (i := 0) rfl) (by omega) (by omega) (cut_len hx (by omega)) (At_lay hx 48 8))) ?_
  iterate 2 refine drM rfl rfl rfl ?_
  refine dr_q rfl rfl (q_slice_k (l := 56) (j := 56) rfl rfl Tryd.runUnderlying22 Tryd.sizeOf5 (by omega) (by omega) rfl) ?_
  refine dr_q rfl rfl (q_call (v := .int .u64 ((fld big xs 56 8 : Nat) : Int)) (args2 rfl rfl) Tryd.call36 (fun w9 hw => rd64 big (o := 56) (hw.get (i := 0) rfl) (by omega) (by omega) (cut_len hx (by omega)) (At_lay hx 56 8))) ?_
  refine dr_q rfl rfl (q_build (vs := [(0, .int .u32 ((fld big xs 0 4 : Nat) : Int)), (1, .int .u32 ((fld big xs 4 4 : Nat) : Int)), (2, .int .u64 ((fld big xs 8 8 : Nat) : Int)), (3, .int .u64 ((fld big xs 16 8 : Nat) : Int)), (4, .int .u64 ((fld big xs 24 8 : Nat) : Int)), (5, .int .u64 ((fld big xs 32 8 : Nat) : Int)), (6, .int .u32 ((fld big xs 40 4 : Nat) : Int)), (7, .int .u32 ((fld big xs 44 4 : Nat) : Int)), (8, .int .u64 ((fld big xs 48 8 : Nat) : Int)), (9, .int .u64 ((fld big xs 56 8 : Nat) : Int))]) (cs := #[.int .u32 ((fld big xs 0 4 : Nat) : Int), .int .u32 ((fld big xs 4 4 : Nat) : Int), .int .u64 ((fld big xs 8 8 : Nat) : Int), .int .u64 ((fld big xs 16 8 : Nat) : Int), .int .u64 ((fld big xs 24 8 : Nat) : Int), .int .u64 ((fld big xs 32 8 : Nat) : Int), .int .u32 ((fld big xs 40 4 : Nat) : Int), .int .u32 ((fld big xs 44 4 : Nat) : Int), .int .u64 ((fld big xs 48 8 : Nat) : Int), .int .u64 ((fld big xs 56 8 : Nat) : Int)]) ⟨rfl, rfl, rfl, rfl, rfl, rfl, rfl, rfl, rfl, rfl, rfl, rfl, rfl, rfl, rfl, rfl, rfl, rfl, rfl, rfl, trivial⟩ (fun _ => by kernel_rfl)) ?_
  refine dr_q rfl rfl (q_nil rfl) ?_
  refine dr_m0 rfl rfl (m_stores (i := 2) (vs := [.int .u32 ((fld big xs 0 4 : Nat) : Int), .int .u32 ((fld big xs 4 4 : Nat) : Int), .int .u64 ((fld big xs 8 8 : Nat) : Int), .int .u64 ((fld big xs 16 8 : Nat) : Int), .int .u64 ((fld big xs 24 8 : Nat) : Int), .int .u64 ((fld big xs 32 8 : Nat) : Int), .int .u32 ((fld big xs 40 4 : Nat) : Int), .int .u32 ((fld big xs 44 4 : Nat) : Int), .int .u64 ((fld big xs 48 8 : Nat) : Int), .int .u64 ((fld big xs 56 8 : Nat) : Int)]) (l' := [.int .u32 ((fld big xs 0 4 : Nat) : Int), .int .u32 ((fld big xs 4 4 : Nat) : Int), .int .u64 ((fld big xs 8 8 : Nat) : Int), .int .u64 ((fld big xs 16 8 : Nat) : Int), .int .u64 ((fld big xs 24 8 : Nat) : Int), .int .u64 ((fld big xs 32 8 : Nat) : Int), .int .u32 ((fld big xs 40 4 : Nat) : Int), .int .u32 ((fld big xs 44 4 : Nat) : Int), .int .u64 ((fld big xs 48 8 : Nat) : Int), .int .u64 ((fld big xs 56 8 : Nat) : Int)]) rfl rfl Tryd.sizeOf151 rfl rfl rfl (by omega) (by rw [List.take_zero, List.nil_append, List.drop_of_length_le (by omega), List.append_nil]) rfl (fun _ => .inr rfl)) (fun _ _ p hp => by simp at hp; simp [hp]) (fun _ _ => ?_)
  refine dr_nil ?_
  refine se_seq ?_
  refine scK [] rfl ?_
  refine scR ?_
  refine sqA rfl rfl ?_
  refine sqZ ?_
  refine sc_ret ?_
  exact se_end (res1 Tryd.results39 rfl) (fun w' hw => .inl ⟨xs, hx, rfl, hw.eff, hw.get (i := 1) rfl, hw.get (i := 2) rfl⟩)
 refine sqKR [1, 2, 7, 9] rfl ?_
 refine sqM rfl rfl ?_
 refine sq_q (q_iface_neq_nil rfl rfl Tryd.runUnderlying86) rfl ?_
 refine sqK [1, 2, 7, 9, 18] rfl ?_
 refine sc_cond_t rfl ?_
 refine scR ?_
 refine sqM rfl rfl ?_
 refine sqA rfl rfl ?_
 refine sqK [6] rfl ?_
 refine sc_ret ?_
 refine se_then_ret ?_
 exact se_end (res1 Tryd.results39 rfl) (fun w' hw => .inr ⟨⟨_, _, rfl⟩, hw.eff⟩)

end Go.Proofs.YtgkjnkhoopcjgaaDoor
/- What NewFile leaves: words on its memory. No condition. -/
namespace Go.Sx
def _root_.Go.Code.tl : Code → Code
 | .seq _ y => y
 | c => c

/-- Pairs of blocks, laid round by round. -/
def mem2 (f : Nat → Nat × Nat) (A : Nat → Nat → Obj) (B : Nat → Obj) : Nat → MM
 | 0 => []
 | i + 1 => ((f i).1, A i (f i).2) :: ((f i).2, B i) :: mem2 f A B i
theorem mem2_congr {f f' : Nat → Nat × Nat} {A A' : Nat → Nat → Obj} {B B' : Nat → Obj} : ∀ {n : Nat}, (∀ i, i < n → f i = f' i ∧ A i (f i).2 = A' i (f i).2 ∧ B i = B' i) → mem2 f A B n = mem2 f' A' B' n := by
 intro n
 induction n with
 | zero => intro _; rfl
 | succ n ih =>
  intro h
  obtain ⟨h1, h2, h3⟩ := h n (Nat.lt_succ_self n)
  simp only [mem2, ih fun i hi => h i (Nat.lt_succ_of_lt hi), h2, h3]
  rw [← h1]
theorem mem2_get {f : Nat → Nat × Nat} {A : Nat → Nat → Obj} {B : Nat → Obj} : ∀ {n i : Nat}, i < n → ((f i).1, A i (f i).2) ∈ mem2 f A B n ∧ ((f i).2, B i) ∈ mem2 f A B n := by
 intro n
 induction n with
 | zero => intro i h; omega
 | succ n ih =>
  intro i h
  by_cases hi : i = n
  ·
   subst hi; simp [mem2]
  ·
   have := ih (i := i) (by omega)
   simp [mem2, this]
theorem mem2_of {f : Nat → Nat × Nat} {A : Nat → Nat → Obj} {B : Nat → Obj} {p : Nat × Obj} : ∀ {n : Nat}, p ∈ mem2 f A B n → ∃ i, i < n ∧ (p = ((f i).1, A i (f i).2) ∨ p = ((f i).2, B i)) := by
 intro n
 induction n with
 | zero => intro h; cases h
 | succ n ih =>
  intro h
  simp only [mem2, List.mem_cons] at h
  rcases h with h | h | h
  ·
   exact ⟨n, Nat.lt_succ_self n, .inl h⟩
  ·
   exact ⟨n, Nat.lt_succ_self n, .inr h⟩
  ·
   obtain ⟨i, hi, hp⟩ := ih h; exact ⟨i, Nat.lt_succ_of_lt hi, hp⟩
theorem mem2_keys {f : Nat → Nat × Nat} {A A' : Nat → Nat → Obj} {B B' : Nat → Obj} : ∀ {n : Nat}, (mem2 f A B n).map Prod.fst = (mem2 f A' B' n).map Prod.fst := by
 intro n
 induction n with
 | zero => rfl
 | succ n ih => simp [mem2, ih]

/-- A row of pointers. -/
def ptrs (f : Nat → Nat × Nat) (n : Nat) : List Value := (List.range n).map fun k => .pointer (some ⟨(f k).1, 0, none⟩)
theorem ptrs_length (f : Nat → Nat × Nat) (n : Nat) : (ptrs f n).length = n := by simp [ptrs]
theorem ptrs_succ (f : Nat → Nat × Nat) (n : Nat) : ptrs f (n + 1) = ptrs f n ++ [.pointer (some ⟨(f n).1, 0, none⟩)] := by simp [ptrs, List.range_succ]
theorem ptrs_congr {f f' : Nat → Nat × Nat} {n : Nat} (h : ∀ i, i < n → f i = f' i) : ptrs f n = ptrs f' n := by
 unfold ptrs
 apply List.map_congr_left
 intro k hk
 rw [h k (List.mem_range.1 hk)]
theorem ptrs_get {f : Nat → Nat × Nat} {n i : Nat} (h : i < n) (pad : List Value) : (ptrs f n ++ pad)[i]? = some (.pointer (some ⟨(f i).1, 0, none⟩)) := by
 rw [List.getElem?_append_left (by rw [ptrs_length]; exact h)]
 simp [ptrs, h]
end Go.Sx
namespace Go.Proofs.YtgkjnkhoopcjgaaDoor
open Go.Sx

/-- A file's block. -/
abbrev fileO (bs : List UInt8) (big : Bool) (ty mach entry : Nat) (secs progs : Value) : Obj :=
 .cells [.int .u8 ((bv bs 4 : Nat) : Int), .int .u8 ((bv bs 5 : Nat) : Int), .int .u8 ((bv bs 6 : Nat) : Int), .int .u8 ((bv bs 7 : Nat) : Int), .int .u8 ((bv bs 8 : Nat) : Int), .int .u8 (ordN big), .int .u16 (ty : Int), .int .u16 (mach : Int), .int .u64 (entry : Int),
  secs, progs, .slice none 0 0, .slice none 0 0, .slice none 0 0].toArray 72 (0, 0)
/-- A program's block. -/
abbrev progO (p : PRow) (s : Nat) : Obj :=
 .cells [.int .i64 (p.type : Int), .int .u32 (p.flags : Int), .int .u64 (p.off : Int), .int .u64 (p.vaddr : Int), .int .u64 (p.paddr : Int), .int .u64 (p.filesz : Int), .int .u64 (p.memsz : Int), .int .u64 (p.align : Int), .iface 81 (.pointer (some ⟨s, 0, none⟩)), .pointer (some ⟨s, 0, none⟩)].toArray 95 (0, 0)
abbrev sectO (nm : List UInt8) (r : SRow) (s : Nat) : Obj :=
 secO (strB nm) r.type r.flags r.addr r.off r.size r.link r.info r.align r.ents r.size (.iface 81 (.pointer (some ⟨s, 0, none⟩))) (.pointer (some ⟨s, 0, none⟩))
abbrev rdO (u : Value) (off n : Nat) : Obj := srO (.iface 117 u) off off (limOf off n) (.int .i64 (n : Int))

def pmem (bs : List UInt8) (u : Value) (f : Nat → Nat × Nat) (n : Nat) : MM := mem2 f (fun i => progO (prow bs i)) (fun i => rdO u (prow bs i).off (prow bs i).filesz) n
def smem (bs : List UInt8) (u : Value) (nm : Nat → List UInt8) (f : Nat → Nat × Nat) (n : Nat) : MM := mem2 f (fun i => sectO (nm i) (srow bs i)) (fun i => rdO u (srow bs i).off (srow bs i).size) n

/-- What NewFile lays. -/
structure NFx where
 fp : Nat
 pb : Nat
 pcap : Nat
 ppad : List Value
 pf : Nat → Nat × Nat
 sb : Nat
 scap : Nat
 spad : List Value
 sf : Nat → Nat × Nat
 N : Nat
def nfMem (bs : List UInt8) (u : Value) (z : NFx) : MM :=
 (z.fp, fileO bs (isBig bs) (hd bs).type (hd bs).machine (hd bs).entry (.slice (some ⟨z.sb, 0, none⟩) (hd bs).shnum z.scap) (.slice (some ⟨z.pb, 0, none⟩) (hd bs).phnum z.pcap)) ::
  (z.pb, .cells (ptrs z.pf (hd bs).phnum ++ z.ppad).toArray 89 (0, 0)) :: (z.sb, .cells (ptrs z.sf (hd bs).shnum ++ z.spad).toArray 73 (0, 0)) ::
  (pmem bs u z.pf (hd bs).phnum ++ smem bs u (nameOf bs) z.sf (hd bs).shnum)

/-- How NewFile ends. -/
def NF (bs : List UInt8) (u : Value) (rest : MM) (w : World) (en : Ending) (w' : World) : Prop :=
 (¬ Good bs ∧ (∃ v t x, en = .returned (.tuple #[v, .iface t x])) ∧ Eff E0 w w') ∨
  (Good bs ∧ ∃ z : NFx, en = .returned (.tuple #[.pointer (some ⟨z.fp, 0, none⟩), .nilIface]) ∧ (∀ p ∈ nfMem bs u z, w.heap.size ≤ p.1) ∧ Mem w E0 z.N (nfMem bs u z ++ rest) w')

noncomputable def body22 : Code := Tryd.f22.body.getD .skip
noncomputable def r20 : Code := body22.tl.tl.tl.tl.tl.tl.tl.tl.tl.tl.tl.tl.tl.tl.tl.tl.tl.tl.tl.tl
noncomputable def r21 : Code := r20.tl
noncomputable def r28 : Code := r21.tl.tl.tl.tl.tl.tl.tl
noncomputable def r29 : Code := r28.tl
noncomputable def r36 : Code := r29.tl.tl.tl.tl.tl.tl.tl
noncomputable def r45 : Code := r36.tl.tl.tl.tl.tl.tl.tl.tl.tl

theorem b139 {a : Int} {s : ByteArray} {t : TypeId} {x : Value} (w : World) : (Instr.build 139 #[(0, .int .i64 a), (1, .string s), (2, .iface t x)]).run Tryd.prog w = .ok (.agg #[.int .i64 a, .string s, .iface t x]) w := by kernel_rfl
end Go.Proofs.YtgkjnkhoopcjgaaDoor
/- NewFile: the identification; what the other parts are to show. Conditions: the bytes lie in memory, at most 8192 of them. -/
namespace Go.Proofs.YtgkjnkhoopcjgaaDoor
open Go.Sx
set_option maxRecDepth 100000

/-- What is given all along. -/
structure Cx (g gu : Gx) (bs : List UInt8) (u : Value) (ms : MM) (w0 : World) : Prop where
 rc : RC g 117 u ms (RD g bs)
 len : bs.length ≤ 8192
 plain : Plain bs
 nd : (((1, g.o) :: (0, gu.o) :: ms).map Prod.fst).Nodup
 has : Has ((1, g.o) :: (0, gu.o) :: ms) w0
/-- The identification holds. -/
structure IdOk (bs : List UInt8) : Prop where
 len : 16 ≤ bs.length
 m0 : bv bs 0 = 127
 m1 : bv bs 1 = 69
 m2 : bv bs 2 = 76
 m3 : bv bs 3 = 70
 cls : bv bs 4 = 1 ∨ bv bs 4 = 2
 dat : bv bs 5 = 1 ∨ bv bs 5 = 2
 ver : bv bs 6 = 1

def StB (g gu : Gx) (bs : List UInt8) (u : Value) (ms : MM) (w0 : World) : Prop := ∀ big fp sb N, IdOk bs → isBig bs = big → w0.heap.size ≤ fp → w0.heap.size ≤ sb →
 Sc Tryd.prog r20 (bodyPost Tryd.prog Tryd.f22 (NF bs u ((1, g.o) :: (0, gu.o) :: ms) w0)) 1287 w0 E0 [(0, .iface 117 u), (4, .pointer (some ⟨sb, 0, none⟩)), (8, .pointer (some ⟨fp, 0, none⟩)), (9, .int .u8 (ordN big)), (10, .int .i64 0), (11, .int .i64 0), (12, .int .i64 0), (13, .int .i64 0), (14, .int .i64 0), (15, .int .i64 0), (16, .int .i64 0)] N
  ((fp, fileO bs big 0 0 0 (.slice none 0 0) (.slice none 0 0)) :: (sb, rdO u 0 9223372036854775807) :: (1, g.o) :: (0, gu.o) :: ms)

theorem lay_get {bs xs : List UInt8} {l : List Value} {n k : Nat} (hx : xs = (bs.drop 0).take n) (hl : xs.length = n) (hk : k < n) : (lay l 0 xs)[k]? = some (.int .u8 ((bv bs k : Nat) : Int)) := by
 unfold lay
 rw [List.take_zero, List.nil_append, List.getElem?_append_left (by simp; omega)]
 rw [bv_get (by omega), hx, List.drop_zero, bv_take hk]

theorem nf_a {g gu : Gx} {bs : List UInt8} {u : Value} {ms : MM} {w0 : World} (cx : Cx g gu bs u ms w0) (hB : StB g gu bs u ms w0) :
  Calls Tryd.prog 22 #[.iface 117 u] w0 (NF bs u ((1, g.o) :: (0, gu.o) :: ms) w0) := by
 have hne : ∀ p ∈ ms, p.1 ≠ w0.heap.size + 1 := fun p hp => by have := cx.has.below p (by simp [hp]); omega
 have b4 := bv_lt bs 4
 have b5 := bv_lt bs 5
 refine enter (E := E0) Tryd.func22 rfl Tryd.ntmps22 (Nat.le_of_ble_eq_true rfl) [(0, _)] (AOk.get («as» := [_]) ⟨rfl, trivial⟩) ((1, g.o) :: (0, gu.o) :: ms) cx.has cx.nd ?_
 refine scR ?_
 iterate 2 refine sqA rfl rfl ?_
 refine sqKR [0] rfl ?_
 refine sqM rfl rfl ?_
 refine sq_m (new_inv (off := 0) (n := 9223372036854775807) (by omega) (by omega) rfl rfl rfl) rfl (fun _ _ => ?_)
 refine sqA rfl rfl ?_
 refine sqKR [0, 4] rfl ?_
 refine sq_m (m_alloc (l := List.replicate 16 (.int .u8 0)) Tryd.zeroValue136 rfl) rfl (fun _ _ => ?_)
 refine sqZ ?_
 iterate 2 refine sc_seq ?_
 refine sc_draw [0, 1, 2, 3, 4, 5, 6, 7, 8, 9, 10] [5] [] mixed (by kernel_rfl) (by kernel_rfl) (fun _ h => by cases h) ?_
 refine drM rfl rfl rfl ?_
 refine dr_q rfl rfl (q_slicea_l (j := 0) (n' := 16) rfl rfl Tryd.runUnderlying136 Tryd.sizeOf5 (by omega) (by omega) rfl rfl) ?_
 refine dr_q rfl rfl (q_mfunc rfl) ?_
 refine dr_q rfl rfl (q_nilm rfl (fun _ => by kernel_rfl)) ?_
 refine drM rfl rfl rfl ?_
 refine dr_m rfl rfl (cx.rc.inv (mm' := fun xs => (w0.heap.size + 1, .cells (lay (List.replicate 16 (.int .u8 0)) 0 xs).toArray 136 (0, 0)) :: (w0.heap.size, rdO u 0 9223372036854775807) :: (1, g.o) :: (0, gu.o) :: ms) (i := 0) (off := 0) (m := 16) rfl rfl rfl rfl (fun _ h => by simp [h]) (by simp) (by have := cx.has.below (1, g.o) (by simp); simp at this; omega) hne (by simp) (by omega) (by omega) (by omega) (fun _ => rfl) (fun h => absurd h (by omega))) (fun _ _ p hp => by cases hp) (fun z hz => ?_)
 refine drM rfl rfl rfl ?_
 iterate 2 refine dr_q rfl rfl (q_extract rfl rfl) ?_
 iterate 2 refine drA rfl rfl rfl ?_
 refine dr_nil ?_
 obtain ⟨xs, e0, N2⟩ := z
 have hxs : xs = (bs.drop 0).take 16 := hz.1.1
 have hlen : xs.length = min 16 bs.length := by rw [hxs]; simp
 have hN2 : w0.heap.size + 1 + 1 ≤ N2 := hz.2
 rcases hz.1.2 with ⟨rfl, hx0⟩ | ⟨rfl, hx0⟩
 ·
  have hxl : xs.length = 16 := hx0
  refine se_seq ?_
  refine scK [0, 4, 5, 7] rfl ?_
  refine scR ?_
  refine sqM rfl rfl ?_
  refine sq_q (q_nil_neq_nil rfl Tryd.runUnderlying86) rfl ?_
  refine sqK [0, 4, 5, 7, 69] rfl ?_
  refine sc_cond_f rfl ?_
  refine scS ?_
  refine scK [0, 4, 5] rfl ?_
  refine sc_seq ?_
  refine scR ?_
  refine sq_q (q_indexa (j := 0) rfl rfl Tryd.runUnderlying136 Tryd.sizeOf5 (by decide) rfl) rfl ?_
  refine sq_q ((q_load1 rfl Tryd.isAgg5 (i := 0) rfl (lay_get hxs hxl (show 0 < 16 by omega)))) rfl ?_
  refine sq_split (q_neq rfl rfl) rfl (fun hh => ?_) (fun hh => ?_)
  ·
   have hbad : ¬ Good bs := fun hg => by have h9 := hg.head.m0; omega
   refine sqM rfl rfl ?_
   iterate 3 refine sq_gn rfl rfl rfl rfl ?_
   refine sqT rfl rfl rfl ?_
   refine sqM rfl rfl ?_
   iterate 3 refine sq_gn rfl rfl rfl rfl ?_
   refine sqT rfl rfl rfl ?_
   refine sqM rfl rfl ?_
   iterate 3 refine sq_gn rfl rfl rfl rfl ?_
   refine sqT rfl rfl rfl ?_
   refine sqK [0, 4, 5, 91] rfl ?_
   refine sc_cond_t rfl ?_
   refine sc_seq ?_
   refine sc_draw [0, 1, 2, 5, 3, 4, 6] [3] _ mixed (by kernel_rfl) (by kernel_rfl) (List.Subset.refl _) ?_
   refine dr_q rfl rfl (q_slicea_lh (j := 0) (n' := 4) (c' := 16) rfl rfl rfl Tryd.runUnderlying136 Tryd.sizeOf5 (by omega) (by omega) (by omega) (by omega) rfl rfl rfl) ?_
   refine dr_q rfl rfl (q_iface rfl Tryd.runUnderlying22 rfl) ?_
   refine dr_q rfl rfl (q_build (vs := [(0, _), (1, _), (2, _)]) ⟨rfl, rfl, rfl, rfl, rfl, rfl, trivial⟩ b139) ?_
   refine drA rfl rfl rfl ?_
   refine dr_m rfl rfl (m_box rfl rfl) (fun _ _ p hp => List.mem_cons_of_mem _ hp) (fun _ _ => ?_)
   refine dr_q rfl rfl (q_iface rfl Tryd.runUnderlying137 rfl) ?_
   refine drA rfl rfl rfl ?_
   refine dr_nil ?_
   refine se_seq ?_
   refine scK [2, 3] rfl ?_
   refine sc_ret ?_
   refine se_then_ret ?_
   exact se_end (res2 Tryd.results22 rfl rfl) (fun w' hw => .inl ⟨hbad, ⟨_, _, _, rfl⟩, hw.eff⟩)
  have i0 : bv bs 0 = 127 := by omega
  refine sqM rfl rfl ?_
  refine sq_gy rfl rfl rfl ?_
  refine sq_q (q_indexa (j := 1) rfl rfl Tryd.runUnderlying136 Tryd.sizeOf5 (by decide) rfl) rfl ?_
  refine sq_gy rfl rfl rfl ?_
  refine sq_q ((q_load1 rfl Tryd.isAgg5 (i := 0) rfl (lay_get hxs hxl (show 1 < 16 by omega)))) rfl ?_
  refine sq_gy rfl rfl rfl ?_
  refine sq_split (q_neq rfl rfl) rfl (fun hh => ?_) (fun hh => ?_)
  ·
   have hbad : ¬ Good bs := fun hg => by have h9 := hg.head.m1; omega
   refine sqF rfl rfl rfl ?_
   refine sqM rfl rfl ?_
   iterate 3 refine sq_gn rfl rfl rfl rfl ?_
   refine sqT rfl rfl rfl ?_
   refine sqM rfl rfl ?_
   iterate 3 refine sq_gn rfl rfl rfl rfl ?_
   refine sqT rfl rfl rfl ?_
   refine sqK [0, 4, 5, 91] rfl ?_
   refine sc_cond_t rfl ?_
   refine sc_seq ?_
   refine sc_draw [0, 1, 2, 5, 3, 4, 6] [3] _ mixed (by kernel_rfl) (by kernel_rfl) (List.Subset.refl _) ?_
   refine dr_q rfl rfl (q_slicea_lh (j := 0) (n' := 4) (c' := 16) rfl rfl rfl Tryd.runUnderlying136 Tryd.sizeOf5 (by omega) (by omega) (by omega) (by omega) rfl rfl rfl) ?_
   refine dr_q rfl rfl (q_iface rfl Tryd.runUnderlying22 rfl) ?_
   refine dr_q rfl rfl (q_build (vs := [(0, _), (1, _), (2, _)]) ⟨rfl, rfl, rfl, rfl, rfl, rfl, trivial⟩ b139) ?_
   refine drA rfl rfl rfl ?_
   refine dr_m rfl rfl (m_box rfl rfl) (fun _ _ p hp => List.mem_cons_of_mem _ hp) (fun _ _ => ?_)
   refine dr_q rfl rfl (q_iface rfl Tryd.runUnderlying137 rfl) ?_
   refine drA rfl rfl rfl ?_
   refine dr_nil ?_
   refine se_seq ?_
   refine scK [2, 3] rfl ?_
   refine sc_ret ?_
   refine se_then_ret ?_
   exact se_end (res2 Tryd.results22 rfl rfl) (fun w' hw => .inl ⟨hbad, ⟨_, _, _, rfl⟩, hw.eff⟩)
  have i1 : bv bs 1 = 69 := by omega
  refine sqF rfl rfl rfl ?_
  refine sqM rfl rfl ?_
  refine sq_gy rfl rfl rfl ?_
  refine sq_q (q_indexa (j := 2) rfl rfl Tryd.runUnderlying136 Tryd.sizeOf5 (by decide) rfl) rfl ?_
  refine sq_gy rfl rfl rfl ?_
  refine sq_q ((q_load1 rfl Tryd.isAgg5 (i := 0) rfl (lay_get hxs hxl (show 2 < 16 by omega)))) rfl ?_
  refine sq_gy rfl rfl rfl ?_
  refine sq_split (q_neq rfl rfl) rfl (fun hh => ?_) (fun hh => ?_)
  ·
   have hbad : ¬ Good bs := fun hg => by have h9 := hg.head.m2; omega
   refine sqF rfl rfl rfl ?_
   refine sqM rfl rfl ?_
   iterate 3 refine sq_gn rfl rfl rfl rfl ?_
   refine sqT rfl rfl rfl ?_
   refine sqK [0, 4, 5, 91] rfl ?_
   refine sc_cond_t rfl ?_
   refine sc_seq ?_
   refine sc_draw [0, 1, 2, 5, 3, 4, 6] [3] _ mixed (by kernel_rfl) (by kernel_rfl) (List.Subset.refl _) ?_
   refine dr_q rfl rfl (q_slicea_lh (j := 0) (n' := 4) (c' := 16) rfl rfl rfl Tryd.runUnderlying136 Tryd.sizeOf5 (by omega) (by omega) (by omega) (by omega) rfl rfl rfl) ?_
   refine dr_q rfl rfl (q_iface rfl Tryd.runUnderlying22 rfl) ?_
   refine dr_q rfl rfl (q_build (vs := [(0, _), (1, _), (2, _)]) ⟨rfl, rfl, rfl, rfl, rfl, rfl, trivial⟩ b139) ?_
   refine drA rfl rfl rfl ?_
   refine dr_m rfl rfl (m_box rfl rfl) (fun _ _ p hp => List.mem_cons_of_mem _ hp) (fun _ _ => ?_)
   refine dr_q rfl rfl (q_iface rfl Tryd.runUnderlying137 rfl) ?_
   refine drA rfl rfl rfl ?_
   refine dr_nil ?_
   refine se_seq ?_
   refine scK [2, 3] rfl ?_
   refine sc_ret ?_
   refine se_then_ret ?_
   exact se_end (res2 Tryd.results22 rfl rfl) (fun w' hw => .inl ⟨hbad, ⟨_, _, _, rfl⟩, hw.eff⟩)
  have i2 : bv bs 2 = 76 := by omega
  refine sqF rfl rfl rfl ?_
  refine sqM rfl rfl ?_
  refine sq_gy rfl rfl rfl ?_
  refine sq_q (q_indexa (j := 3) rfl rfl Tryd.runUnderlying136 Tryd.sizeOf5 (by decide) rfl) rfl ?_
  refine sq_gy rfl rfl rfl ?_
  refine sq_q ((q_load1 rfl Tryd.isAgg5 (i := 0) rfl (lay_get hxs hxl (show 3 < 16 by omega)))) rfl ?_
  refine sq_gy rfl rfl rfl ?_
  refine sq_split (q_neq rfl rfl) rfl (fun hh => ?_) (fun hh => ?_)
  ·
   have hbad : ¬ Good bs := fun hg => by have h9 := hg.head.m3; omega
   refine sqF rfl rfl rfl ?_
   refine sqK [0, 4, 5, 91] rfl ?_
   refine sc_cond_t rfl ?_
   refine sc_seq ?_
   refine sc_draw [0, 1, 2, 5, 3, 4, 6] [3] _ mixed (by kernel_rfl) (by kernel_rfl) (List.Subset.refl _) ?_
   refine dr_q rfl rfl (q_slicea_lh (j := 0) (n' := 4) (c' := 16) rfl rfl rfl Tryd.runUnderlying136 Tryd.sizeOf5 (by omega) (by omega) (by omega) (by omega) rfl rfl rfl) ?_
   refine dr_q rfl rfl (q_iface rfl Tryd.runUnderlying22 rfl) ?_
   refine dr_q rfl rfl (q_build (vs := [(0, _), (1, _), (2, _)]) ⟨rfl, rfl, rfl, rfl, rfl, rfl, trivial⟩ b139) ?_
   refine drA rfl rfl rfl ?_
   refine dr_m rfl rfl (m_box rfl rfl) (fun _ _ p hp => List.mem_cons_of_mem _ hp) (fun _ _ => ?_)
   refine dr_q rfl rfl (q_iface rfl Tryd.runUnderlying137 rfl) ?_
   refine drA rfl rfl rfl ?_
   refine dr_nil ?_
   refine se_seq ?_
   refine scK [2, 3] rfl ?_
   refine sc_ret ?_
   refine se_then_ret ?_
   exact se_end (res2 Tryd.results22 rfl rfl) (fun w' hw => .inl ⟨hbad, ⟨_, _, _, rfl⟩, hw.eff⟩)
  have i3 : bv bs 3 = 70 := by omega
  refine sqF rfl rfl rfl ?_
  refine sqK [0, 4, 5, 91] rfl ?_
  refine sc_cond_f rfl ?_
  refine scS ?_
  refine scK [0, 4, 5] rfl ?_
  refine scR ?_
  refine sq_m (m_alloc (l := [.int .u8 0, .int .u8 0, .int .u8 0, .int .u8 0, .int .u8 0, .int .u8 0, .int .u16 0, .int .u16 0, .int .u64 0, .slice none 0 0, .slice none 0 0, .slice none 0 0, .slice none 0 0, .slice none 0 0]) Tryd.zeroValue72 rfl) rfl (fun _ _ => ?_)
  refine sqA rfl rfl ?_
  refine sqKR [0, 4, 5, 8] rfl ?_
  refine sqM rfl rfl ?_
  refine sq_q (q_indexa (j := 4) rfl rfl Tryd.runUnderlying136 Tryd.sizeOf5 (by decide) rfl) rfl ?_
  refine sq_q ((q_load1 rfl Tryd.isAgg5 (i := 1) rfl (lay_get hxs hxl (show 4 < 16 by omega)))) rfl ?_
  refine sq_q (q_nil rfl) rfl ?_
  refine sq_q (q_fieldj (j := 0) rfl Tryd.runUnderlying72 rfl Tryd.sizeOf66 rfl) rfl ?_
  refine sq_q (q_fieldj (j := 0) rfl Tryd.runUnderlying66 rfl Tryd.sizeOf57 rfl) rfl ?_
  refine sq_m0 ((m_store rfl rfl Tryd.sizeOf57 rfl (i := 0) rfl rfl rfl (by intro h; omega))) (fun _ _ => ?_)
  refine sqK [0, 4, 5, 8] rfl ?_
  refine sc_seq ?_
  refine scR ?_
  refine sqM rfl rfl ?_
  refine sq_q (q_nil rfl) rfl ?_
  refine sq_q (q_fieldj (j := 0) rfl Tryd.runUnderlying72 rfl Tryd.sizeOf66 rfl) rfl ?_
  refine sq_q (q_fieldj (j := 0) rfl Tryd.runUnderlying66 rfl Tryd.sizeOf57 rfl) rfl ?_
  refine sq_q (q_load1 rfl Tryd.isAgg57 (i := 0) rfl rfl) rfl ?_
  refine sqK [0, 4, 5, 8, 108] rfl ?_
  refine sc_block ?_
  refine scR ?_
  refine sq_split (q_eql rfl rfl) rfl (fun h12_0 => ?_) (fun h12_0 => ?_)
  ·
   have c4 : bv bs 4 = 1 := by omega
   refine sqA rfl rfl ?_
   refine sqK [0, 4, 5, 8, 108, 118] rfl ?_
   refine sc_cond_t rfl ?_
   refine sc_skip ?_
   refine se_block ?_
   refine se_seq ?_
   refine scK [0, 4, 5, 8] rfl ?_
   refine scR ?_
   refine sqM rfl rfl ?_
   refine sq_q (q_indexa (j := 5) rfl rfl Tryd.runUnderlying136 Tryd.sizeOf5 (by decide) rfl) rfl ?_
   refine sq_q ((q_load1 rfl Tryd.isAgg5 (i := 1) rfl (lay_get hxs hxl (show 5 < 16 by omega)))) rfl ?_
   refine sq_q (q_nil rfl) rfl ?_
   refine sq_q (q_fieldj (j := 0) rfl Tryd.runUnderlying72 rfl Tryd.sizeOf66 rfl) rfl ?_
   refine sq_q (q_fieldj (j := 1) rfl Tryd.runUnderlying66 rfl Tryd.sizeOf58 rfl) rfl ?_
   refine sq_m0 ((m_store rfl rfl Tryd.sizeOf58 rfl (i := 0) rfl rfl rfl (by intro h; omega))) (fun _ _ => ?_)
   refine sqKR [0, 4, 5, 8] rfl ?_
   refine sqA rfl rfl ?_
   refine sqK [0, 4, 5, 8] rfl ?_
   refine sc_seq ?_
   refine scR ?_
   refine sqM rfl rfl ?_
   refine sq_q (q_nil rfl) rfl ?_
   refine sq_q (q_fieldj (j := 0) rfl Tryd.runUnderlying72 rfl Tryd.sizeOf66 rfl) rfl ?_
   refine sq_q (q_fieldj (j := 1) rfl Tryd.runUnderlying66 rfl Tryd.sizeOf58 rfl) rfl ?_
   refine sq_q (q_load1 rfl Tryd.isAgg58 (i := 0) rfl rfl) rfl ?_
   refine sqK [0, 4, 5, 8, 132] rfl ?_
   refine sc_block ?_
   refine scR ?_
   refine sq_split (q_eql rfl rfl) rfl (fun h18_0 => ?_) (fun h18_0 => ?_)
   ·
    have c5 : bv bs 5 = 1 := by omega
    have hbig : isBig bs = false := by simp [isBig, c5]
    refine sqA rfl rfl ?_
    refine sqK [0, 4, 5, 8, 132, 142] rfl ?_
    refine sc_cond_t rfl ?_
    refine sc_region ?_
    refine sqA rfl rfl ?_
    refine sq_nil ?_
    refine se_block ?_
    refine se_seq ?_
    refine scK [0, 4, 5, 8, 9] rfl ?_
    refine scR ?_
    iterate 2 refine sqM rfl rfl ?_
    refine sq_q (q_nil rfl) rfl ?_
    refine sq_q (q_fieldj (j := 0) rfl Tryd.runUnderlying72 rfl Tryd.sizeOf66 rfl) rfl ?_
    refine sq_q (q_fieldj (j := 5) rfl Tryd.runUnderlying66 rfl Tryd.sizeOf61 rfl) rfl ?_
    refine sq_m0 ((m_store rfl rfl Tryd.sizeOf61 rfl (i := 0) rfl rfl rfl (by intro h; omega))) (fun _ _ => ?_)
    refine sqKR [0, 4, 5, 8, 9] rfl ?_
    refine sqM rfl rfl ?_
    refine sq_q (q_indexa (j := 6) rfl rfl Tryd.runUnderlying136 Tryd.sizeOf5 (by decide) rfl) rfl ?_
    refine sq_q ((q_load1 rfl Tryd.isAgg5 (i := 1) rfl (lay_get hxs hxl (show 6 < 16 by omega)))) rfl ?_
    refine sq_q (q_nil rfl) rfl ?_
    refine sq_q (q_fieldj (j := 0) rfl Tryd.runUnderlying72 rfl Tryd.sizeOf66 rfl) rfl ?_
    refine sq_q (q_fieldj (j := 2) rfl Tryd.runUnderlying66 rfl Tryd.sizeOf59 rfl) rfl ?_
    refine sq_m0 ((m_store rfl rfl Tryd.sizeOf59 rfl (i := 0) rfl rfl rfl (by intro h; omega))) (fun _ _ => ?_)
    refine sqK [0, 4, 5, 8, 9] rfl ?_
    refine sc_seq ?_
    refine scR ?_
    refine sqM rfl rfl ?_
    refine sq_q (q_nil rfl) rfl ?_
    refine sq_q (q_fieldj (j := 0) rfl Tryd.runUnderlying72 rfl Tryd.sizeOf66 rfl) rfl ?_
    refine sq_q (q_fieldj (j := 2) rfl Tryd.runUnderlying66 rfl Tryd.sizeOf59 rfl) rfl ?_
    refine sq_q (q_load1 rfl Tryd.isAgg59 (i := 0) rfl rfl) rfl ?_
    refine sq_split (q_neq rfl rfl) rfl (fun h24_5 => ?_) (fun h24_5 => ?_)
    ·
     have hbad : ¬ Good bs := fun hg => by have h9 := hg.head.ver; omega
     refine sqK [0, 4, 5, 8, 9, 162] rfl ?_
     refine sc_cond_t rfl ?_
     refine sc_seq ?_
     refine sc_draw [0, 1, 2, 3, 4, 5, 6, 9, 7, 8, 10] [7] _ mixed (by kernel_rfl) (by kernel_rfl) (List.Subset.refl _) ?_
     refine drM rfl rfl rfl ?_
     refine dr_q rfl rfl (q_nil rfl) ?_
     refine dr_q rfl rfl (q_fieldj (j := 0) rfl Tryd.runUnderlying72 rfl Tryd.sizeOf66 rfl) ?_
     refine dr_q rfl rfl (q_fieldj (j := 2) rfl Tryd.runUnderlying66 rfl Tryd.sizeOf59 rfl) ?_
     refine dr_q rfl rfl (q_load1 rfl Tryd.isAgg59 (i := 0) rfl rfl) ?_
     refine dr_q rfl rfl (q_iface rfl Tryd.runUnderlying59 rfl) ?_
     refine dr_q rfl rfl (q_build (vs := [(0, _), (1, _), (2, _)]) ⟨rfl, rfl, rfl, rfl, rfl, rfl, trivial⟩ b139) ?_
     refine drA rfl rfl rfl ?_
     refine dr_m rfl rfl (m_box rfl rfl) (fun _ _ p hp => List.mem_cons_of_mem _ hp) (fun _ _ => ?_)
     refine dr_q rfl rfl (q_iface rfl Tryd.runUnderlying137 rfl) ?_
     refine drA rfl rfl rfl ?_
     refine dr_nil ?_
     refine se_seq ?_
     refine scK [2, 3] rfl ?_
     refine sc_ret ?_
     refine se_then_ret ?_
     exact se_end (res2 Tryd.results22 rfl rfl) (fun w' hw => .inl ⟨hbad, ⟨_, _, _, rfl⟩, hw.eff⟩)
    have c6 : bv bs 6 = 1 := by omega
    refine sqK [0, 4, 5, 8, 9, 162] rfl ?_
    refine sc_cond_f rfl ?_
    refine scS ?_
    refine scK [0, 4, 5, 8, 9] rfl ?_
    refine scR ?_
    refine sqM rfl rfl ?_
    refine sq_q (q_indexa (j := 7) rfl rfl Tryd.runUnderlying136 Tryd.sizeOf5 (by decide) rfl) rfl ?_
    refine sq_q ((q_load1 rfl Tryd.isAgg5 (i := 1) rfl (lay_get hxs hxl (show 7 < 16 by omega)))) rfl ?_
    refine sq_q (q_nil rfl) rfl ?_
    refine sq_q (q_fieldj (j := 0) rfl Tryd.runUnderlying72 rfl Tryd.sizeOf66 rfl) rfl ?_
    refine sq_q (q_fieldj (j := 3) rfl Tryd.runUnderlying66 rfl Tryd.sizeOf60 rfl) rfl ?_
    refine sq_m0 ((m_store rfl rfl Tryd.sizeOf60 rfl (i := 0) rfl rfl rfl (by intro h; omega))) (fun _ _ => ?_)
    refine sqKR [0, 4, 5, 8, 9] rfl ?_
    refine sqM rfl rfl ?_
    refine sq_q (q_indexa (j := 8) rfl rfl Tryd.runUnderlying136 Tryd.sizeOf5 (by decide) rfl) rfl ?_
    refine sq_q ((q_load1 rfl Tryd.isAgg5 (i := 1) rfl (lay_get hxs hxl (show 8 < 16 by omega)))) rfl ?_
    refine sq_q (q_nil rfl) rfl ?_
    refine sq_q (q_fieldj (j := 0) rfl Tryd.runUnderlying72 rfl Tryd.sizeOf66 rfl) rfl ?_
    refine sq_q (q_fieldj (j := 4) rfl Tryd.runUnderlying66 rfl Tryd.sizeOf5 rfl) rfl ?_
    refine sq_m0 ((m_store rfl rfl Tryd.sizeOf5 rfl (i := 0) rfl rfl rfl (by intro h; omega))) (fun _ _ => ?_)
    refine sqKR [0, 4, 8, 9] rfl ?_
    refine sqA rfl rfl ?_
    refine sqZ ?_
    refine scR ?_
    iterate 2 refine sqA rfl rfl ?_
    refine sqZ ?_
    refine scR ?_
    refine sqA rfl rfl ?_
    refine sqZ ?_
    refine scR ?_
    iterate 3 refine sqA rfl rfl ?_
    refine sqK [0, 4, 8, 9, 10, 11, 12, 13, 14, 15, 16] rfl ?_
    refine sc_mem (fun _ h => h.sublist (.cons_cons _ (.cons _ (.cons_cons _ (List.Sublist.refl _))))) ?_
    exact hB _ _ _ _ ⟨by omega, i0, i1, i2, i3, by omega, by omega, c6⟩ hbig (by show w0.heap.size ≤ N2; omega) (Nat.le_refl _)
   have c5a : ¬ bv bs 5 = 1 := by omega
   refine sqA rfl rfl ?_
   refine sqK [0, 4, 5, 8, 132, 142] rfl ?_
   refine sc_cond_f rfl ?_
   refine scR ?_
   refine sq_split (q_eql rfl rfl) rfl (fun h20_0 => ?_) (fun h20_0 => ?_)
   ·
    have c5 : bv bs 5 = 2 := by omega
    have hbig : isBig bs = true := by simp [isBig, c5]
    refine sqA rfl rfl ?_
    refine sqK [0, 4, 5, 8, 144] rfl ?_
    refine sc_cond_t rfl ?_
    refine sc_region ?_
    refine sqA rfl rfl ?_
    refine sq_nil ?_
    refine se_block ?_
    refine se_seq ?_
    refine scK [0, 4, 5, 8, 9] rfl ?_
    refine scR ?_
    iterate 2 refine sqM rfl rfl ?_
    refine sq_q (q_nil rfl) rfl ?_
    refine sq_q (q_fieldj (j := 0) rfl Tryd.runUnderlying72 rfl Tryd.sizeOf66 rfl) rfl ?_
    refine sq_q (q_fieldj (j := 5) rfl Tryd.runUnderlying66 rfl Tryd.sizeOf61 rfl) rfl ?_
    refine sq_m0 ((m_store rfl rfl Tryd.sizeOf61 rfl (i := 0) rfl rfl rfl (by intro h; omega))) (fun _ _ => ?_)
    refine sqKR [0, 4, 5, 8, 9] rfl ?_
    refine sqM rfl rfl ?_
    refine sq_q (q_indexa (j := 6) rfl rfl Tryd.runUnderlying136 Tryd.sizeOf5 (by decide) rfl) rfl ?_
    refine sq_q ((q_load1 rfl Tryd.isAgg5 (i := 1) rfl (lay_get hxs hxl (show 6 < 16 by omega)))) rfl ?_
    refine sq_q (q_nil rfl) rfl ?_
    refine sq_q (q_fieldj (j := 0) rfl Tryd.runUnderlying72 rfl Tryd.sizeOf66 rfl) rfl ?_
    refine sq_q (q_fieldj (j := 2) rfl Tryd.runUnderlying66 rfl Tryd.sizeOf59 rfl) rfl ?_
    refine sq_m0 ((m_store rfl rfl Tryd.sizeOf59 rfl (i := 0) rfl rfl rfl (by intro h; omega))) (fun _ _ => ?_)
    refine sqK [0, 4, 5, 8, 9] rfl ?_
    refine sc_seq ?_
    refine scR ?_
    refine sqM rfl rfl ?_
    refine sq_q (q_nil rfl) rfl ?_
    refine sq_q (q_fieldj (j := 0) rfl Tryd.runUnderlying72 rfl Tryd.sizeOf66 rfl) rfl ?_
    refine sq_q (q_fieldj (j := 2) rfl Tryd.runUnderlying66 rfl Tryd.sizeOf59 rfl) rfl ?_
    refine sq_q (q_load1 rfl Tryd.isAgg59 (i := 0) rfl rfl) rfl ?_
    refine sq_split (q_neq rfl rfl) rfl (fun h24_5 => ?_) (fun h24_5 => ?_)
    ·
     have hbad : ¬ Good bs := fun hg => by have h9 := hg.head.ver; omega
     refine sqK [0, 4, 5, 8, 9, 162] rfl ?_
     refine sc_cond_t rfl ?_
     refine sc_seq ?_
     refine sc_draw [0, 1, 2, 3, 4, 5, 6, 9, 7, 8, 10] [7] _ mixed (by kernel_rfl) (by kernel_rfl) (List.Subset.refl _) ?_
     refine drM rfl rfl rfl ?_
     refine dr_q rfl rfl (q_nil rfl) ?_
     refine dr_q rfl rfl (q_fieldj (j := 0) rfl Tryd.runUnderlying72 rfl Tryd.sizeOf66 rfl) ?_
     refine dr_q rfl rfl (q_fieldj (j := 2) rfl Tryd.runUnderlying66 rfl Tryd.sizeOf59 rfl) ?_
     refine dr_q rfl rfl (q_load1 rfl Tryd.isAgg59 (i := 0) rfl rfl) ?_
     refine dr_q rfl rfl (q_iface rfl Tryd.runUnderlying59 rfl) ?_
     refine dr_q rfl rfl (q_build (vs := [(0, _), (1, _), (2, _)]) ⟨rfl, rfl, rfl, rfl, rfl, rfl, trivial⟩ b139) ?_
     refine drA rfl rfl rfl ?_
     refine dr_m rfl rfl (m_box rfl rfl) (fun _ _ p hp => List.mem_cons_of_mem _ hp) (fun _ _ => ?_)
     refine dr_q rfl rfl (q_iface rfl Tryd.runUnderlying137 rfl) ?_
     refine drA rfl rfl rfl ?_
     refine dr_nil ?_
     refine se_seq ?_
     refine scK [2, 3] rfl ?_
     refine sc_ret ?_
     refine se_then_ret ?_
     exact se_end (res2 Tryd.results22 rfl rfl) (fun w' hw => .inl ⟨hbad, ⟨_, _, _, rfl⟩, hw.eff⟩)
    have c6 : bv bs 6 = 1 := by omega
    refine sqK [0, 4, 5, 8, 9, 162] rfl ?_
    refine sc_cond_f rfl ?_
    refine scS ?_
    refine scK [0, 4, 5, 8, 9] rfl ?_
    refine scR ?_
    refine sqM rfl rfl ?_
    refine sq_q (q_indexa (j := 7) rfl rfl Tryd.runUnderlying136 Tryd.sizeOf5 (by decide) rfl) rfl ?_
    refine sq_q ((q_load1 rfl Tryd.isAgg5 (i := 1) rfl (lay_get hxs hxl (show 7 < 16 by omega)))) rfl ?_
    refine sq_q (q_nil rfl) rfl ?_
    refine sq_q (q_fieldj (j := 0) rfl Tryd.runUnderlying72 rfl Tryd.sizeOf66 rfl) rfl ?_
    refine sq_q (q_fieldj (j := 3) rfl Tryd.runUnderlying66 rfl Tryd.sizeOf60 rfl) rfl ?_
    refine sq_m0 ((m_store rfl rfl Tryd.sizeOf60 rfl (i := 0) rfl rfl rfl (by intro h; omega))) (fun _ _ => ?_)
    refine sqKR [0, 4, 5, 8, 9] rfl ?_
    refine sqM rfl rfl ?_
    refine sq_q (q_indexa (j := 8) rfl rfl Tryd.runUnderlying136 Tryd.sizeOf5 (by decide) rfl) rfl ?_
    refine sq_q ((q_load1 rfl Tryd.isAgg5 (i := 1) rfl (lay_get hxs hxl (show 8 < 16 by omega)))) rfl ?_
    refine sq_q (q_nil rfl) rfl ?_
    refine sq_q (q_fieldj (j := 0) rfl Tryd.runUnderlying72 rfl Tryd.sizeOf66 rfl) rfl ?_
    refine sq_q (q_fieldj (j := 4) rfl Tryd.runUnderlying66 rfl Tryd.sizeOf5 rfl) rfl ?_
    refine sq_m0 ((m_store rfl rfl Tryd.sizeOf5 rfl (i := 0) rfl rfl rfl (by intro h; omega))) (fun _ _ => ?_)
    refine sqKR [0, 4, 8, 9] rfl ?_
    refine sqA rfl rfl ?_
    refine sqZ ?_
    refine scR ?_
    iterate 2 refine sqA rfl rfl ?_
    refine sqZ ?_
    refine scR ?_
    refine sqA rfl rfl ?_
    refine sqZ ?_
    refine scR ?_
    iterate 3 refine sqA rfl rfl ?_
    refine sqK [0, 4, 8, 9, 10, 11, 12, 13, 14, 15, 16] rfl ?_
    refine sc_mem (fun _ h => h.sublist (.cons_cons _ (.cons _ (.cons_cons _ (List.Sublist.refl _))))) ?_
    exact hB _ _ _ _ ⟨by omega, i0, i1, i2, i3, by omega, by omega, c6⟩ hbig (by show w0.heap.size ≤ N2; omega) (Nat.le_refl _)
   have hbad : ¬ Good bs := fun hg => by have h9 := hg.head.dat; omega
   refine sqA rfl rfl ?_
   refine sqK [0, 4, 5, 8, 144] rfl ?_
   refine sc_cond_f rfl ?_
   refine sc_seq ?_
   refine sc_draw [0, 1, 2, 3, 4, 5, 6, 9, 7, 8, 10] [7] _ mixed (by kernel_rfl) (by kernel_rfl) (List.Subset.refl _) ?_
   refine drM rfl rfl rfl ?_
   refine dr_q rfl rfl (q_nil rfl) ?_
   refine dr_q rfl rfl (q_fieldj (j := 0) rfl Tryd.runUnderlying72 rfl Tryd.sizeOf66 rfl) ?_
   refine dr_q rfl rfl (q_fieldj (j := 1) rfl Tryd.runUnderlying66 rfl Tryd.sizeOf58 rfl) ?_
   refine dr_q rfl rfl (q_load1 rfl Tryd.isAgg58 (i := 0) rfl rfl) ?_
   refine dr_q rfl rfl (q_iface rfl Tryd.runUnderlying58 rfl) ?_
   refine dr_q rfl rfl (q_build (vs := [(0, _), (1, _), (2, _)]) ⟨rfl, rfl, rfl, rfl, rfl, rfl, trivial⟩ b139) ?_
   refine drA rfl rfl rfl ?_
   refine dr_m rfl rfl (m_box rfl rfl) (fun _ _ p hp => List.mem_cons_of_mem _ hp) (fun _ _ => ?_)
   refine dr_q rfl rfl (q_iface rfl Tryd.runUnderlying137 rfl) ?_
   refine drA rfl rfl rfl ?_
   refine dr_nil ?_
   refine se_seq ?_
   refine scK [2, 3] rfl ?_
   refine sc_ret ?_
   refine se_block_ret ?_
   refine se_then_ret ?_
   exact se_end (res2 Tryd.results22 rfl rfl) (fun w' hw => .inl ⟨hbad, ⟨_, _, _, rfl⟩, hw.eff⟩)
  have c4a : ¬ bv bs 4 = 1 := by omega
  refine sqA rfl rfl ?_
  refine sqK [0, 4, 5, 8, 108, 118] rfl ?_
  refine sc_cond_f rfl ?_
  refine scR ?_
  refine sq_split (q_eql rfl rfl) rfl (fun h13_0 => ?_) (fun h13_0 => ?_)
  ·
   have c4 : bv bs 4 = 2 := by omega
   refine sqA rfl rfl ?_
   refine sqK [0, 4, 5, 8, 120] rfl ?_
   refine sc_cond_t rfl ?_
   refine sc_skip ?_
   refine se_block ?_
   refine se_seq ?_
   refine scK [0, 4, 5, 8] rfl ?_
   refine scR ?_
   refine sqM rfl rfl ?_
   refine sq_q (q_indexa (j := 5) rfl rfl Tryd.runUnderlying136 Tryd.sizeOf5 (by decide) rfl) rfl ?_
   refine sq_q ((q_load1 rfl Tryd.isAgg5 (i := 1) rfl (lay_get hxs hxl (show 5 < 16 by omega)))) rfl ?_
   refine sq_q (q_nil rfl) rfl ?_
   refine sq_q (q_fieldj (j := 0) rfl Tryd.runUnderlying72 rfl Tryd.sizeOf66 rfl) rfl ?_
   refine sq_q (q_fieldj (j := 1) rfl Tryd.runUnderlying66 rfl Tryd.sizeOf58 rfl) rfl ?_
   refine sq_m0 ((m_store rfl rfl Tryd.sizeOf58 rfl (i := 0) rfl rfl rfl (by intro h; omega))) (fun _ _ => ?_)
   refine sqKR [0, 4, 5, 8] rfl ?_
   refine sqA rfl rfl ?_
   refine sqK [0, 4, 5, 8] rfl ?_
   refine sc_seq ?_
   refine scR ?_
   refine sqM rfl rfl ?_
   refine sq_q (q_nil rfl) rfl ?_
   refine sq_q (q_fieldj (j := 0) rfl Tryd.runUnderlying72 rfl Tryd.sizeOf66 rfl) rfl ?_
   refine sq_q (q_fieldj (j := 1) rfl Tryd.runUnderlying66 rfl Tryd.sizeOf58 rfl) rfl ?_
   refine sq_q (q_load1 rfl Tryd.isAgg58 (i := 0) rfl rfl) rfl ?_
   refine sqK [0, 4, 5, 8, 132] rfl ?_
   refine sc_block ?_
   refine scR ?_
   refine sq_split (q_eql rfl rfl) rfl (fun h18_0 => ?_) (fun h18_0 => ?_)
   ·
    have c5 : bv bs 5 = 1 := by omega
    have hbig : isBig bs = false := by simp [isBig, c5]
    refine sqA rfl rfl ?_
    refine sqK [0, 4, 5, 8, 132, 142] rfl ?_
    refine sc_cond_t rfl ?_
    refine sc_region ?_
    refine sqA rfl rfl ?_
    refine sq_nil ?_
    refine se_block ?_
    refine se_seq ?_
    refine scK [0, 4, 5, 8, 9] rfl ?_
    refine scR ?_
    iterate 2 refine sqM rfl rfl ?_
    refine sq_q (q_nil rfl) rfl ?_
    refine sq_q (q_fieldj (j := 0) rfl Tryd.runUnderlying72 rfl Tryd.sizeOf66 rfl) rfl ?_
    refine sq_q (q_fieldj (j := 5) rfl Tryd.runUnderlying66 rfl Tryd.sizeOf61 rfl) rfl ?_
    refine sq_m0 ((m_store rfl rfl Tryd.sizeOf61 rfl (i := 0) rfl rfl rfl (by intro h; omega))) (fun _ _ => ?_)
    refine sqKR [0, 4, 5, 8, 9] rfl ?_
    refine sqM rfl rfl ?_
    refine sq_q (q_indexa (j := 6) rfl rfl Tryd.runUnderlying136 Tryd.sizeOf5 (by decide) rfl) rfl ?_
    refine sq_q ((q_load1 rfl Tryd.isAgg5 (i := 1) rfl (lay_get hxs hxl (show 6 < 16 by omega)))) rfl ?_
    refine sq_q (q_nil rfl) rfl ?_
    refine sq_q (q_fieldj (j := 0) rfl Tryd.runUnderlying72 rfl Tryd.sizeOf66 rfl) rfl ?_
    refine sq_q (q_fieldj (j := 2) rfl Tryd.runUnderlying66 rfl Tryd.sizeOf59 rfl) rfl ?_
    refine sq_m0 ((m_store rfl rfl Tryd.sizeOf59 rfl (i := 0) rfl rfl rfl (by intro h; omega))) (fun _ _ => ?_)
    refine sqK [0, 4, 5, 8, 9] rfl ?_
    refine sc_seq ?_
    refine scR ?_
    refine sqM rfl rfl ?_
    refine sq_q (q_nil rfl) rfl ?_
    refine sq_q (q_fieldj (j := 0) rfl Tryd.runUnderlying72 rfl Tryd.sizeOf66 rfl) rfl ?_
    refine sq_q (q_fieldj (j := 2) rfl Tryd.runUnderlying66 rfl Tryd.sizeOf59 rfl) rfl ?_
    refine sq_q (q_load1 rfl Tryd.isAgg59 (i := 0) rfl rfl) rfl ?_
    refine sq_split (q_neq rfl rfl) rfl (fun h24_5 => ?_) (fun h24_5 => ?_)
    ·
     have hbad : ¬ Good bs := fun hg => by have h9 := hg.head.ver; omega
     refine sqK [0, 4, 5, 8, 9, 162] rfl ?_
     refine sc_cond_t rfl ?_
     refine sc_seq ?_
     refine sc_draw [0, 1, 2, 3, 4, 5, 6, 9, 7, 8, 10] [7] _ mixed (by kernel_rfl) (by kernel_rfl) (List.Subset.refl _) ?_
     refine drM rfl rfl rfl ?_
     refine dr_q rfl rfl (q_nil rfl) ?_
     refine dr_q rfl rfl (q_fieldj (j := 0) rfl Tryd.runUnderlying72 rfl Tryd.sizeOf66 rfl) ?_
     refine dr_q rfl rfl (q_fieldj (j := 2) rfl Tryd.runUnderlying66 rfl Tryd.sizeOf59 rfl) ?_
     refine dr_q rfl rfl (q_load1 rfl Tryd.isAgg59 (i := 0) rfl rfl) ?_
     refine dr_q rfl rfl (q_iface rfl Tryd.runUnderlying59 rfl) ?_
     refine dr_q rfl rfl (q_build (vs := [(0, _), (1, _), (2, _)]) ⟨rfl, rfl, rfl, rfl, rfl, rfl, trivial⟩ b139) ?_
     refine drA rfl rfl rfl ?_
     refine dr_m rfl rfl (m_box rfl rfl) (fun _ _ p hp => List.mem_cons_of_mem _ hp) (fun _ _ => ?_)
     refine dr_q rfl rfl (q_iface rfl Tryd.runUnderlying137 rfl) ?_
     refine drA rfl rfl rfl ?_
     refine dr_nil ?_
     refine se_seq ?_
     refine scK [2, 3] rfl ?_
     refine sc_ret ?_
     refine se_then_ret ?_
     exact se_end (res2 Tryd.results22 rfl rfl) (fun w' hw => .inl ⟨hbad, ⟨_, _, _, rfl⟩, hw.eff⟩)
    have c6 : bv bs 6 = 1 := by omega
    refine sqK [0, 4, 5, 8, 9, 162] rfl ?_
    refine sc_cond_f rfl ?_
    refine scS ?_
    refine scK [0, 4, 5, 8, 9] rfl ?_
    refine scR ?_
    refine sqM rfl rfl ?_
    refine sq_q (q_indexa (j := 7) rfl rfl Tryd.runUnderlying136 Tryd.sizeOf5 (by decide) rfl) rfl ?_
    refine sq_q ((q_load1 rfl Tryd.isAgg5 (i := 1) rfl (lay_get hxs hxl (show 7 < 16 by omega)))) rfl ?_
    refine sq_q (q_nil rfl) rfl ?_
    refine sq_q (q_fieldj (j := 0) rfl Tryd.runUnderlying72 rfl Tryd.sizeOf66 rfl) rfl ?_
    refine sq_q (q_fieldj (j := 3) rfl Tryd.runUnderlying66 rfl Tryd.sizeOf60 rfl) rfl ?_
    refine sq_m0 ((m_store rfl rfl Tryd.sizeOf60 rfl (i := 0) rfl rfl rfl (by intro h; omega))) (fun _ _ => ?_)
    refine sqKR [0, 4, 5, 8, 9] rfl ?_
    refine sqM rfl rfl ?_
    refine sq_q (q_indexa (j := 8) rfl rfl Tryd.runUnderlying136 Tryd.sizeOf5 (by decide) rfl) rfl ?_
    refine sq_q ((q_load1 rfl Tryd.isAgg5 (i := 1) rfl (lay_get hxs hxl (show 8 < 16 by omega)))) rfl ?_
    refine sq_q (q_nil rfl) rfl ?_
    refine sq_q (q_fieldj (j := 0) rfl Tryd.runUnderlying72 rfl Tryd.sizeOf66 rfl) rfl ?_
    refine sq_q (q_fieldj (j := 4) rfl Tryd.runUnderlying66 rfl Tryd.sizeOf5 rfl) rfl ?_
    refine sq_m0 ((m_store rfl rfl Tryd.sizeOf5 rfl (i := 0) rfl rfl rfl (by intro h; omega))) (fun _ _ => ?_)
    refine sqKR [0, 4, 8, 9] rfl ?_
    refine sqA rfl rfl ?_
    refine sqZ ?_
    refine scR ?_
    iterate 2 refine sqA rfl rfl ?_
    refine sqZ ?_
    refine scR ?_
    refine sqA rfl rfl ?_
    refine sqZ ?_
    refine scR ?_
    iterate 3 refine sqA rfl rfl ?_
    refine sqK [0, 4, 8, 9, 10, 11, 12, 13, 14, 15, 16] rfl ?_
    refine sc_mem (fun _ h => h.sublist (.cons_cons _ (.cons _ (.cons_cons _ (List.Sublist.refl _))))) ?_
    exact hB _ _ _ _ ⟨by omega, i0, i1, i2, i3, by omega, by omega, c6⟩ hbig (by show w0.heap.size ≤ N2; omega) (Nat.le_refl _)
   have c5a : ¬ bv bs 5 = 1 := by omega
   refine sqA rfl rfl ?_
   refine sqK [0, 4, 5, 8, 132, 142] rfl ?_
   refine sc_cond_f rfl ?_
   refine scR ?_
   refine sq_split (q_eql rfl rfl) rfl (fun h20_0 => ?_) (fun h20_0 => ?_)
   ·
    have c5 : bv bs 5 = 2 := by omega
    have hbig : isBig bs = true := by simp [isBig, c5]
    refine sqA rfl rfl ?_
    refine sqK [0, 4, 5, 8, 144] rfl ?_
    refine sc_cond_t rfl ?_
    refine sc_region ?_
    refine sqA rfl rfl ?_
    refine sq_nil ?_
    refine se_block ?_
    refine se_seq ?_
    refine scK [0, 4, 5, 8, 9] rfl ?_
    refine scR ?_
    iterate 2 refine sqM rfl rfl ?_
    refine sq_q (q_nil rfl) rfl ?_
    refine sq_q (q_fieldj (j := 0) rfl Tryd.runUnderlying72 rfl Tryd.sizeOf66 rfl) rfl ?_
    refine sq_q (q_fieldj (j := 5) rfl Tryd.runUnderlying66 rfl Tryd.sizeOf61 rfl) rfl ?_
    refine sq_m0 ((m_store rfl rfl Tryd.sizeOf61 rfl (i := 0) rfl rfl rfl (by intro h; omega))) (fun _ _ => ?_)
    refine sqKR [0, 4, 5, 8, 9] rfl ?_
    refine sqM rfl rfl ?_
    refine sq_q (q_indexa (j := 6) rfl rfl Tryd.runUnderlying136 Tryd.sizeOf5 (by decide) rfl) rfl ?_
    refine sq_q ((q_load1 rfl Tryd.isAgg5 (i := 1) rfl (lay_get hxs hxl (show 6 < 16 by omega)))) rfl ?_
    refine sq_q (q_nil rfl) rfl ?_
    refine sq_q (q_fieldj (j := 0) rfl Tryd.runUnderlying72 rfl Tryd.sizeOf66 rfl) rfl ?_
    refine sq_q (q_fieldj (j := 2) rfl Tryd.runUnderlying66 rfl Tryd.sizeOf59 rfl) rfl ?_
    refine sq_m0 ((m_store rfl rfl Tryd.sizeOf59 rfl (i := 0) rfl rfl rfl (by intro h; omega))) (fun _ _ => ?_)
    refine sqK [0, 4, 5, 8, 9] rfl ?_
    refine sc_seq ?_
    refine scR ?_
    refine sqM rfl rfl ?_
    refine sq_q (q_nil rfl) rfl ?_
    refine sq_q (q_fieldj (j := 0) rfl Tryd.runUnderlying72 rfl Tryd.sizeOf66 rfl) rfl ?_
    refine sq_q (q_fieldj (j := 2) rfl Tryd.runUnderlying66 rfl Tryd.sizeOf59 rfl) rfl ?_
    refine sq_q (q_load1 rfl Tryd.isAgg59 (i := 0) rfl rfl) rfl ?_
    refine sq_split (q_neq rfl rfl) rfl (fun h24_5 => ?_) (fun h24_5 => ?_)
    ·
     have hbad : ¬ Good bs := fun hg => by have h9 := hg.head.ver; omega
     refine sqK [0, 4, 5, 8, 9, 162] rfl ?_
     refine sc_cond_t rfl ?_
     refine sc_seq ?_
     refine sc_draw [0, 1, 2, 3, 4, 5, 6, 9, 7, 8, 10] [7] _ mixed (by kernel_rfl) (by kernel_rfl) (List.Subset.refl _) ?_
     refine drM rfl rfl rfl ?_
     refine dr_q rfl rfl (q_nil rfl) ?_
     refine dr_q rfl rfl (q_fieldj (j := 0) rfl Tryd.runUnderlying72 rfl Tryd.sizeOf66 rfl) ?_
     refine dr_q rfl rfl (q_fieldj (j := 2) rfl Tryd.runUnderlying66 rfl Tryd.sizeOf59 rfl) ?_
     refine dr_q rfl rfl (q_load1 rfl Tryd.isAgg59 (i := 0) rfl rfl) ?_
     refine dr_q rfl rfl (q_iface rfl Tryd.runUnderlying59 rfl) ?_
     refine dr_q rfl rfl (q_build (vs := [(0, _), (1, _), (2, _)]) ⟨rfl, rfl, rfl, rfl, rfl, rfl, trivial⟩ b139) ?_
     refine drA rfl rfl rfl ?_
     refine dr_m rfl rfl (m_box rfl rfl) (fun _ _ p hp => List.mem_cons_of_mem _ hp) (fun _ _ => ?_)
     refine dr_q rfl rfl (q_iface rfl Tryd.runUnderlying137 rfl) ?_
     refine drA rfl rfl rfl ?_
     refine dr_nil ?_
     refine se_seq ?_
     refine scK [2, 3] rfl ?_
     refine sc_ret ?_
     refine se_then_ret ?_
     exact se_end (res2 Tryd.results22 rfl rfl) (fun w' hw => .inl ⟨hbad, ⟨_, _, _, rfl⟩, hw.eff⟩)
    have c6 : bv bs 6 = 1 := by omega
    refine sqK [0, 4, 5, 8, 9, 162] rfl ?_
    refine sc_cond_f rfl ?_
    refine scS ?_
    refine scK [0, 4, 5, 8, 9] rfl ?_
    refine scR ?_
    refine sqM rfl rfl ?_
    refine sq_q (q_indexa (j := 7) rfl rfl Tryd.runUnderlying136 Tryd.sizeOf5 (by decide) rfl) rfl ?_
    refine sq_q ((q_load1 rfl Tryd.isAgg5 (i := 1) rfl (lay_get hxs hxl (show 7 < 16 by omega)))) rfl ?_
    refine sq_q (q_nil rfl) rfl ?_
    refine sq_q (q_fieldj (j := 0) rfl Tryd.runUnderlying72 rfl Tryd.sizeOf66 rfl) rfl ?_
    refine sq_q (q_fieldj (j := 3) rfl Tryd.runUnderlying66 rfl Tryd.sizeOf60 rfl) rfl ?_
    refine sq_m0 ((m_store rfl rfl Tryd.sizeOf60 rfl (i := 0) rfl rfl rfl (by intro h; omega))) (fun _ _ => ?_)
    refine sqKR [0, 4, 5, 8, 9] rfl ?_
    refine sqM rfl rfl ?_
    refine sq_q (q_indexa (j := 8) rfl rfl Tryd.runUnderlying136 Tryd.sizeOf5 (by decide) rfl) rfl ?_
    refine sq_q ((q_load1 rfl Tryd.isAgg5 (i := 1) rfl (lay_get hxs hxl (show 8 < 16 by omega)))) rfl ?_
    refine sq_q (q_nil rfl) rfl ?_
    refine sq_q (q_fieldj (j := 0) rfl Tryd.runUnderlying72 rfl Tryd.sizeOf66 rfl) rfl ?_
    refine sq_q (q_fieldj (j := 4) rfl Tryd.runUnderlying66 rfl Tryd.sizeOf5 rfl) rfl ?_
    refine sq_m0 ((m_store rfl rfl Tryd.sizeOf5 rfl (i := 0) rfl rfl rfl (by intro h; omega))) (fun _ _ => ?_)
    refine sqKR [0, 4, 8, 9] rfl ?_
    refine sqA rfl rfl ?_
    refine sqZ ?_
    refine scR ?_
    iterate 2 refine sqA rfl rfl ?_
    refine sqZ ?_
    refine scR ?_
    refine sqA rfl rfl ?_
    refine sqZ ?_
    refine scR ?_
    iterate 3 refine sqA rfl rfl ?_
    refine sqK [0, 4, 8, 9, 10, 11, 12, 13, 14, 15, 16] rfl ?_
    refine sc_mem (fun _ h => h.sublist (.cons_cons _ (.cons _ (.cons_cons _ (List.Sublist.refl _))))) ?_
    exact hB _ _ _ _ ⟨by omega, i0, i1, i2, i3, by omega, by omega, c6⟩ hbig (by show w0.heap.size ≤ N2; omega) (Nat.le_refl _)
   have hbad : ¬ Good bs := fun hg => by have h9 := hg.head.dat; omega
   refine sqA rfl rfl ?_
   refine sqK [0, 4, 5, 8, 144] rfl ?_
   refine sc_cond_f rfl ?_
   refine sc_seq ?_
   refine sc_draw [0, 1, 2, 3, 4, 5, 6, 9, 7, 8, 10] [7] _ mixed (by kernel_rfl) (by kernel_rfl) (List.Subset.refl _) ?_
   refine drM rfl rfl rfl ?_
   refine dr_q rfl rfl (q_nil rfl) ?_
   refine dr_q rfl rfl (q_fieldj (j := 0) rfl Tryd.runUnderlying72 rfl Tryd.sizeOf66 rfl) ?_
   refine dr_q rfl rfl (q_fieldj (j := 1) rfl Tryd.runUnderlying66 rfl Tryd.sizeOf58 rfl) ?_
   refine dr_q rfl rfl (q_load1 rfl Tryd.isAgg58 (i := 0) rfl rfl) ?_
   refine dr_q rfl rfl (q_iface rfl Tryd.runUnderlying58 rfl) ?_
   refine dr_q rfl rfl (q_build (vs := [(0, _), (1, _), (2, _)]) ⟨rfl, rfl, rfl, rfl, rfl, rfl, trivial⟩ b139) ?_
   refine drA rfl rfl rfl ?_
   refine dr_m rfl rfl (m_box rfl rfl) (fun _ _ p hp => List.mem_cons_of_mem _ hp) (fun _ _ => ?_)
   refine dr_q rfl rfl (q_iface rfl Tryd.runUnderlying137 rfl) ?_
   refine drA rfl rfl rfl ?_
   refine dr_nil ?_
   refine se_seq ?_
   refine scK [2, 3] rfl ?_
   refine sc_ret ?_
   refine se_block_ret ?_
   refine se_then_ret ?_
   exact se_end (res2 Tryd.results22 rfl rfl) (fun w' hw => .inl ⟨hbad, ⟨_, _, _, rfl⟩, hw.eff⟩)
  have hbad : ¬ Good bs := fun hg => by have h9 := hg.head.cls; omega
  refine sqA rfl rfl ?_
  refine sqK [0, 4, 5, 8, 120] rfl ?_
  refine sc_cond_f rfl ?_
  refine sc_seq ?_
  refine sc_draw [0, 1, 2, 3, 4, 5, 6, 9, 7, 8, 10] [7] _ mixed (by kernel_rfl) (by kernel_rfl) (List.Subset.refl _) ?_
  refine drM rfl rfl rfl ?_
  refine dr_q rfl rfl (q_nil rfl) ?_
  refine dr_q rfl rfl (q_fieldj (j := 0) rfl Tryd.runUnderlying72 rfl Tryd.sizeOf66 rfl) ?_
  refine dr_q rfl rfl (q_fieldj (j := 0) rfl Tryd.runUnderlying66 rfl Tryd.sizeOf57 rfl) ?_
  refine dr_q rfl rfl (q_load1 rfl Tryd.isAgg57 (i := 0) rfl rfl) ?_
  refine dr_q rfl rfl (q_iface rfl Tryd.runUnderlying57 rfl) ?_
  refine dr_q rfl rfl (q_build (vs := [(0, _), (1, _), (2, _)]) ⟨rfl, rfl, rfl, rfl, rfl, rfl, trivial⟩ b139) ?_
  refine drA rfl rfl rfl ?_
  refine dr_m rfl rfl (m_box rfl rfl) (fun _ _ p hp => List.mem_cons_of_mem _ hp) (fun _ _ => ?_)
  refine dr_q rfl rfl (q_iface rfl Tryd.runUnderlying137 rfl) ?_
  refine drA rfl rfl rfl ?_
  refine dr_nil ?_
  refine se_seq ?_
  refine scK [2, 3] rfl ?_
  refine sc_ret ?_
  refine se_block_ret ?_
  refine se_then_ret ?_
  exact se_end (res2 Tryd.results22 rfl rfl) (fun w' hw => .inl ⟨hbad, ⟨_, _, _, rfl⟩, hw.eff⟩)
 have hxl : xs.length < 16 ∨ 16 = 0 := hx0
 have hbad : ¬ Good bs := fun hg => by have h9 := hg.head.len; omega
 refine se_seq ?_
 refine scK [0, 4, 5, 7] rfl ?_
 refine scR ?_
 refine sqM rfl rfl ?_
 refine sq_q (q_iface_neq_nil rfl rfl Tryd.runUnderlying86) rfl ?_
 refine sqK [0, 4, 5, 7, 69] rfl ?_
 refine sc_cond_t rfl ?_
 refine scR ?_
 refine sqM rfl rfl ?_
 refine sq_q (q_build (vs := [(0, _), (1, _), (2, _)]) ⟨rfl, rfl, rfl, rfl, rfl, rfl, trivial⟩ b139) rfl ?_
 refine sq_m (m_box rfl rfl) rfl (fun _ _ => ?_)
 refine sq_q (q_iface rfl Tryd.runUnderlying137 rfl) rfl ?_
 iterate 2 refine sqA rfl rfl ?_
 refine sqK [2, 3] rfl ?_
 refine sc_ret ?_
 refine se_then_ret ?_
 exact se_end (res2 Tryd.results22 rfl rfl) (fun w' hw => .inl ⟨hbad, ⟨_, _, _, rfl⟩, hw.eff⟩)

end Go.Proofs.YtgkjnkhoopcjgaaDoor
/- NewFile: the header's fields. Conditions: the bytes lie in memory, at most 8192 of them; the identification holds. -/
namespace Go.Proofs.YtgkjnkhoopcjgaaDoor
open Go.Sx
set_option maxRecDepth 100000

/-- The header has been read. -/
structure RdOk (bs : List UInt8) : Prop where
 id : IdOk bs
 size : wd (isWide bs) 52 64 ≤ bs.length
 ver4 : (hd bs).version % 256 = 1

def StC (g gu : Gx) (bs : List UInt8) (u : Value) (ms : MM) (w0 : World) : Prop := ∀ big fp sb N, RdOk bs → isBig bs = big → w0.heap.size ≤ fp → w0.heap.size ≤ sb →
 Sc Tryd.prog r21 (bodyPost Tryd.prog Tryd.f22 (NF bs u ((1, g.o) :: (0, gu.o) :: ms) w0)) 1287 w0 E0 [(0, .iface 117 u), (4, .pointer (some ⟨sb, 0, none⟩)), (8, .pointer (some ⟨fp, 0, none⟩)), (9, .int .u8 (ordN big)), (10, .int .i64 (IntKind.i64.wrap ((hd bs).phoff : Int))), (11, .int .i64 ((hd bs).phes : Int)), (12, .int .i64 ((hd bs).phnum : Int)), (13, .int .i64 (IntKind.i64.wrap ((hd bs).shoff : Int))), (14, .int .i64 ((hd bs).shes : Int)), (15, .int .i64 ((hd bs).shnum : Int)), (16, .int .i64 ((hd bs).names : Int))] N
  ((fp, fileO bs big (hd bs).type (hd bs).machine (hd bs).entry (.slice none 0 0) (.slice none 0 0)) :: (sb, rdO u 0 9223372036854775807) :: (1, g.o) :: (0, gu.o) :: ms)

/-- A direct call of a section reader's ReadAt. -/
theorem _root_.Go.Sx.RC.call33 {gx : Gx} {sb : Nat} {ms : MM} {R : Nat → Nat → List UInt8 → Value → Prop} (h : RC gx 81 (.pointer (some ⟨sb, 0, none⟩)) ms R) {w0 : World} {E : Nat → Prop} {fm : FM} {N : Nat} {mm : MM} {d : Option Nat} {ty : TypeId} {pos : String} {after : Array Edge} {gd : Option (Nat × Bool)}
  {x p o : Operand} {ts : Array TypeId} {pb po m mc off i : Nat} {l : List Value} {e : TypeId} {mm' : List UInt8 → MM}
  (hx : fm.ev x = some (.pointer (some ⟨sb, 0, none⟩))) (hp : fm.ev p = some (.slice (some ⟨pb, po, none⟩) m mc)) (ho : fm.ev o = some (.int .i64 ((off : Nat) : Int))) (hm : mm[i]? = some (pb, .cells l.toArray e (0, 0))) (hs : List.Subset ms mm) (h1 : (1, gx.o) ∈ mm) (hp1 : 1 ≠ pb) (hne : ∀ p ∈ ms, p.1 ≠ pb)
  (hl : po + m ≤ l.length) (hc : m ≤ mc) (hmc : mc ≤ 9223372036854775807) (hoff : off ≤ 9223372036854775807) (hmm : ∀ xs, setK mm i (pb, .cells (lay l po xs).toArray e (0, 0)) some = some (mm' xs)) (hE : pb < w0.heap.size → E pb) :
  Main Tryd.prog w0 E fm N mm ⟨d, .call { callee := .value (.func 33), args := #[x, p, o], argTypes := ts }, ty, pos, after, gd⟩ (fun z : Rx => .tuple #[.int .i64 (z.xs.length : Nat), z.err]) (fun z => z.N) (fun z => mm' z.xs) (fun z => R off m z.xs z.err ∧ N ≤ z.N) := by
 obtain ⟨f, h4, h2, h3⟩ := h.read
 obtain rfl : f = 33 := by
  have h5 : (method (Tryd.prog.types.size + Made.depth) 81 (.pointer (some ⟨sb, 0, none⟩)) "ReadAt").run Tryd.prog w0 = .ok (33, .pointer (some ⟨sb, 0, none⟩)) w0 := by kernel_rfl
  rw [h4 w0] at h5
  injection h5 with h6
  injection h6
 refine m_call (args3 hx hp ho) Tryd.call33 fun w hw => ?_
 refine Calls.mono (h3 w pb po m mc l e off (fun q hq => hw.has q (hs hq)) (hw.has _ h1) hp1 (hw.get hm) hne hl hc hmc hoff) fun en w' ⟨xs, err, hR, hen, he, hb⟩ => ?_
 refine ⟨⟨xs, err, w'.heap.size⟩, ⟨hR, by rw [← hw.size]; exact he.size⟩, hen, ?_⟩
 obtain ⟨_, hms⟩ := setK_eq (hmm xs)
 simp only [Option.some.injEq] at hms
 exact hms ▸ hw.wrote hm he hb hE

/-- A section reader over the bytes' own: of a piece. -/
theorem rc_piece {g : Gx} {bs : List UInt8} {u : Value} {ms : MM} (h : RC g 117 u ms (RD g bs)) (hb : bs.length ≤ 8192) {sb cur off n : Nat} {nn : Value} (ho : off ≤ 9223372036854775807)
  (hnd : (((sb, srO (.iface 117 u) off cur (limOf off n) nn) :: (1, g.o) :: ms).map Prod.fst).Nodup) : RC g 81 (.pointer (some ⟨sb, 0, none⟩)) ((sb, srO (.iface 117 u) off cur (limOf off n) nn) :: ms) (RD g (cut bs off n)) := by
 refine (rc_sr h (limOf_ge ho) (limOf_le _ _) hnd).weak (fun o m xs e hR => ?_) (fun _ _ _ _ h => h.err)
 have := SR.rd hR
 rw [limOf_take (by omega)] at this
 exact this
theorem cut_all {bs : List UInt8} (hb : bs.length ≤ 8192) : cut bs 0 9223372036854775807 = bs := by
 unfold cut
 rw [List.drop_zero, List.take_of_length_le (by omega)]
theorem rc_all {g : Gx} {bs : List UInt8} {u : Value} {ms : MM} (h : RC g 117 u ms (RD g bs)) (hb : bs.length ≤ 8192) {sb cur : Nat} {nn : Value}
  (hnd : (((sb, srO (.iface 117 u) 0 cur (limOf 0 9223372036854775807) nn) :: (1, g.o) :: ms).map Prod.fst).Nodup) : RC g 81 (.pointer (some ⟨sb, 0, none⟩)) ((sb, srO (.iface 117 u) 0 cur (limOf 0 9223372036854775807) nn) :: ms) (RD g bs) := by
 have := rc_piece h hb (off := 0) (n := 9223372036854775807) (cur := cur) (nn := nn) (by omega) hnd
 rw [cut_all hb] at this
 exact this

section
variable {bs xs : List UInt8} {big : Bool} {n o m c b v : Nat} {e : TypeId} {fr : Nat × Nat} {w : World}
theorem hd16 (hv : fld big bs o 2 = v) (hx : xs = (bs.drop 0).take n) (hl : xs.length = n) (ho : o + 2 ≤ n) (hm : 2 ≤ m) (hb : w.heap[b]? = some (.cells (lay (List.replicate n (.int .u8 0)) 0 xs).toArray e fr)) :
  Calls Tryd.prog 34 #[.int .u8 (ordN big), .slice (some ⟨b, o, none⟩) m c] w fun e w' => e = .returned (.int .u16 ((v : Nat) : Int)) ∧ Same w w' := by
 subst hv
 refine rd16 big hb hm ?_ (At_head hx hl ho)
 have := congrArg List.length hx
 simp at this ⊢; omega
theorem hd32 (hv : fld big bs o 4 = v) (hx : xs = (bs.drop 0).take n) (hl : xs.length = n) (ho : o + 4 ≤ n) (hm : 4 ≤ m) (hc : m ≤ c) (hb : w.heap[b]? = some (.cells (lay (List.replicate n (.int .u8 0)) 0 xs).toArray e fr)) :
  Calls Tryd.prog 35 #[.int .u8 (ordN big), .slice (some ⟨b, o, none⟩) m c] w fun e w' => e = .returned (.int .u32 ((v : Nat) : Int)) ∧ Same w w' := by
 subst hv
 refine rd32 big hb hm hc ?_ (At_head hx hl ho)
 have := congrArg List.length hx
 simp at this ⊢; omega
theorem hd64 (hv : fld big bs o 8 = v) (hx : xs = (bs.drop 0).take n) (hl : xs.length = n) (ho : o + 8 ≤ n) (hm : 8 ≤ m) (hc : m ≤ c) (hb : w.heap[b]? = some (.cells (lay (List.replicate n (.int .u8 0)) 0 xs).toArray e fr)) :
  Calls Tryd.prog 36 #[.int .u8 (ordN big), .slice (some ⟨b, o, none⟩) m c] w fun e w' => e = .returned (.int .u64 ((v : Nat) : Int)) ∧ Same w w' := by
 subst hv
 refine rd64 big hb hm hc ?_ (At_head hx hl ho)
 have := congrArg List.length hx
 simp at this ⊢; omega
end

theorem nf_b_false {g gu : Gx} {bs : List UInt8} {u : Value} {ms : MM} {w0 : World} (cx : Cx g gu bs u ms w0) (hC : StC g gu bs u ms w0) (hwd : isWide bs = false) : StB g gu bs u ms w0 := by
 intro big fp sb N hid hbig hfp hsb
 have c4 : bv bs 4 = 1 := by have := hid.cls; simp [isWide] at hwd; omega
 have c6 : bv bs 6 = 1 := hid.ver
 obtain ⟨hl1, hl2, hl3, hl4, hl5, hl6, hl7, hl8, hl9, hl10, hl11⟩ := hd_lt bs
 have e_type : fld big bs 16 2 = (hd bs).type := by simp [hd, hwd, hbig, wd]
 have e_machine : fld big bs 18 2 = (hd bs).machine := by simp [hd, hwd, hbig, wd]
 have e_entry : fld big bs 24 4 = (hd bs).entry := by simp [hd, hwd, hbig, wd]
 have e_version : fld big bs 20 4 = (hd bs).version := by simp [hd, hwd, hbig, wd]
 have e_phoff : fld big bs 28 4 = (hd bs).phoff := by simp [hd, hwd, hbig, wd]
 have e_phes : fld big bs 42 2 = (hd bs).phes := by simp [hd, hwd, hbig, wd]
 have e_phnum : fld big bs 44 2 = (hd bs).phnum := by simp [hd, hwd, hbig, wd]
 have e_shoff : fld big bs 32 4 = (hd bs).shoff := by simp [hd, hwd, hbig, wd]
 have e_shes : fld big bs 46 2 = (hd bs).shes := by simp [hd, hwd, hbig, wd]
 have e_shnum : fld big bs 48 2 = (hd bs).shnum := by simp [hd, hwd, hbig, wd]
 have e_names : fld big bs 50 2 = (hd bs).names := by simp [hd, hwd, hbig, wd]
 refine sc_known fun hnd hge hlt => ?_
 have hnd1 : (((sb, srO (.iface 117 u) 0 0 (limOf 0 9223372036854775807) (.int .i64 (9223372036854775807 : Nat))) :: (1, g.o) :: ms).map Prod.fst).Nodup := by
  simp only [List.map_cons, List.nodup_cons, List.mem_cons, not_or] at hnd ⊢
  obtain ⟨_, ⟨b1, b2, b3⟩, ⟨c1, c2⟩, d1, d2⟩ := hnd
  exact ⟨⟨b1, b3⟩, c2, d2⟩
 have h1N : 1 ≠ N := by have := hlt (1, g.o) (by simp); simp at this; omega
 have hneN : ∀ p ∈ (sb, srO (.iface 117 u) 0 0 (limOf 0 9223372036854775807) (.int .i64 (9223372036854775807 : Nat))) :: ms, p.1 ≠ N := fun p hp => by
  have := hlt p (by rcases List.mem_cons.1 hp with rfl | hp <;> simp [*])
  omega
 refine sc_seq ?_
 refine scR ?_
 refine sqM rfl rfl ?_
 refine sq_q (q_nil rfl) rfl ?_
 refine sq_q (q_fieldj (j := 0) rfl Tryd.runUnderlying72 rfl Tryd.sizeOf66 rfl) rfl ?_
 refine sq_q (q_fieldj (j := 0) rfl Tryd.runUnderlying66 rfl Tryd.sizeOf57 rfl) rfl ?_
 refine sq_q (q_load1 rfl Tryd.isAgg57 (i := 0) rfl rfl) rfl ?_
 refine sqK [0, 4, 8, 9, 10, 11, 12, 13, 14, 15, 16, 188] rfl ?_
 refine sc_block ?_
 refine scR ?_
 refine sq_q (q_decT (q_eql rfl rfl) (by omega)) rfl ?_
 refine sqA rfl rfl ?_
 refine sqK [0, 4, 8, 9, 10, 11, 12, 13, 14, 15, 16, 188, 189] rfl ?_
 refine sc_cond_t rfl ?_
 refine scR ?_
 refine sq_m (m_make (kl := .i64) (kc := .i64) (len := 52) (cap := 52) rfl rfl Tryd.underlying22 (i := Tryd.t5) (z := .int .u8 0) (by kernel_rfl) (by kernel_rfl) (by kernel_rfl) rfl (Nat.le_refl _) (mk_fits (by omega)) (by omega)) rfl (fun _ _ => ?_)
 refine sqA rfl rfl ?_
 refine sqK [0, 4, 8, 9, 17] rfl ?_
 refine sc_seq ?_
 refine scR ?_
 iterate 2 refine sqM rfl rfl ?_
 refine sq_m ((rc_all cx.rc cx.len hnd1).call33 (mm' := fun xs => (N, .cells (lay (List.replicate 52 (.int .u8 0)) 0 xs).toArray 5 (0, 0)) :: (fp, fileO bs big 0 0 0 (.slice none 0 0) (.slice none 0 0)) :: (sb, rdO u 0 9223372036854775807) :: (1, g.o) :: (0, gu.o) :: ms) (i := 0) (off := 0) (m := 52) rfl rfl rfl rfl (fun p hp => by rcases List.mem_cons.1 hp with rfl | hp <;> simp [*]) (by simp) h1N hneN (by rw [List.length_replicate]; omega) (by omega) (by omega) (by omega) (fun _ => rfl) (fun h => absurd h (by omega))) rfl (fun z hz => ?_)
 refine sqM rfl rfl ?_
 iterate 2 refine sq_q (q_extract rfl rfl) rfl ?_
 iterate 2 refine sqA rfl rfl ?_
 obtain ⟨xs, e0, N2⟩ := z
 have hxs : xs = (bs.drop 0).take 52 := hz.1.1
 have hlen : xs.length = min 52 bs.length := by rw [hxs]; simp
 rcases hz.1.2 with ⟨rfl, hx0⟩ | ⟨rfl, hx0⟩
 ·
  have hxl : xs.length = 52 := hx0
  refine sqKR [0, 4, 8, 9, 17, 19] rfl ?_
  refine sqM rfl rfl ?_
  refine sq_q (q_nil_neq_nil rfl Tryd.runUnderlying86) rfl ?_
  refine sqK [0, 4, 8, 9, 17, 19, 199] rfl ?_
  refine sc_cond_f rfl ?_
  refine scS ?_
  refine scK [0, 4, 8, 9, 17] rfl ?_
  refine scR ?_
  iterate 3 refine sqM rfl rfl ?_
  refine sq_q (q_slice_k (l := 16) (j := 16) rfl rfl Tryd.runUnderlying22 Tryd.sizeOf5 (by omega) (by omega) rfl) rfl ?_
  refine sq_q (q_call (v := .int .u16 (((hd bs).type : Nat) : Int)) (args2 rfl rfl) Tryd.call34 (fun w9 hw => hd16 e_type hxs hxl (by omega) (by omega) (hw.get (i := 0) rfl))) rfl ?_
  refine sq_q (q_nil rfl) rfl ?_
  refine sq_q (q_fieldj (j := 0) rfl Tryd.runUnderlying72 rfl Tryd.sizeOf66 rfl) rfl ?_
  refine sq_q (q_fieldj (j := 6) rfl Tryd.runUnderlying66 rfl Tryd.sizeOf63 rfl) rfl ?_
  refine sq_m0 ((m_store rfl rfl Tryd.sizeOf63 rfl (i := 1) rfl rfl rfl (by intro h; omega))) (fun _ _ => ?_)
  refine sqKR [0, 4, 8, 9, 17] rfl ?_
  iterate 3 refine sqM rfl rfl ?_
  refine sq_q (q_slice_k (l := 18) (j := 18) rfl rfl Tryd.runUnderlying22 Tryd.sizeOf5 (by omega) (by omega) rfl) rfl ?_
  refine sq_q (q_call (v := .int .u16 (((hd bs).machine : Nat) : Int)) (args2 rfl rfl) Tryd.call34 (fun w9 hw => hd16 e_machine hxs hxl (by omega) (by omega) (hw.get (i := 0) rfl))) rfl ?_
  refine sq_q (q_nil rfl) rfl ?_
  refine sq_q (q_fieldj (j := 0) rfl Tryd.runUnderlying72 rfl Tryd.sizeOf66 rfl) rfl ?_
  refine sq_q (q_fieldj (j := 7) rfl Tryd.runUnderlying66 rfl Tryd.sizeOf64 rfl) rfl ?_
  refine sq_m0 ((m_store rfl rfl Tryd.sizeOf64 rfl (i := 1) rfl rfl rfl (by intro h; omega))) (fun _ _ => ?_)
  refine sqKR [0, 4, 8, 9, 17] rfl ?_
  iterate 3 refine sqM rfl rfl ?_
  refine sq_q (q_slice_k (l := 24) (j := 24) rfl rfl Tryd.runUnderlying22 Tryd.sizeOf5 (by omega) (by omega) rfl) rfl ?_
  refine sq_q (q_call (v := .int .u32 (((hd bs).entry : Nat) : Int)) (args2 rfl rfl) Tryd.call35 (fun w9 hw => hd32 e_entry hxs hxl (by omega) (by omega) (by omega) (hw.get (i := 0) rfl))) rfl ?_
  refine sq_q (q_conv rfl Tryd.runUnderlying74 Tryd.runUnderlying23 (w_u64 (by omega) (by omega))) rfl ?_
  refine sq_q (q_nil rfl) rfl ?_
  refine sq_q (q_fieldj (j := 0) rfl Tryd.runUnderlying72 rfl Tryd.sizeOf66 rfl) rfl ?_
  refine sq_q (q_fieldj (j := 8) rfl Tryd.runUnderlying66 rfl Tryd.sizeOf23 rfl) rfl ?_
  refine sq_m0 ((m_store rfl rfl Tryd.sizeOf23 rfl (i := 1) rfl rfl rfl (by intro h; omega))) (fun _ _ => ?_)
  refine sqK [0, 4, 8, 9, 17] rfl ?_
  refine sc_seq ?_
  refine scR ?_
  iterate 2 refine sqM rfl rfl ?_
  refine sq_q (q_slice_k (l := 20) (j := 20) rfl rfl Tryd.runUnderlying22 Tryd.sizeOf5 (by omega) (by omega) rfl) rfl ?_
  refine sq_q (q_call (v := .int .u32 (((hd bs).version : Nat) : Int)) (args2 rfl rfl) Tryd.call35 (fun w9 hw => hd32 e_version hxs hxl (by omega) (by omega) (by omega) (hw.get (i := 0) rfl))) rfl ?_
  refine sq_q (q_conv rfl Tryd.runUnderlying74 Tryd.runUnderlying59 (m_u8 _)) rfl ?_
  refine sqA rfl rfl ?_
  refine sqKR [0, 4, 8, 9, 17, 20] rfl ?_
  iterate 2 refine sqM rfl rfl ?_
  refine sq_q (q_nil rfl) rfl ?_
  refine sq_q (q_fieldj (j := 0) rfl Tryd.runUnderlying72 rfl Tryd.sizeOf66 rfl) rfl ?_
  refine sq_q (q_fieldj (j := 2) rfl Tryd.runUnderlying66 rfl Tryd.sizeOf59 rfl) rfl ?_
  refine sq_q (q_load1 rfl Tryd.isAgg59 (i := 1) rfl rfl) rfl ?_
  refine sq_split (q_neq rfl rfl) rfl (fun h42_6 => ?_) (fun h42_6 => ?_)
  ·
   have hbad : ¬ Good bs := fun hg => by have h9 := hg.head.ver4; omega
   refine sqK [0, 4, 8, 9, 17, 20, 237] rfl ?_
   refine sc_cond_t rfl ?_
   refine scR ?_
   refine sqM rfl rfl ?_
   refine sq_q (q_iface rfl Tryd.runUnderlying59 rfl) rfl ?_
   refine sq_q (q_build (vs := [(0, _), (1, _), (2, _)]) ⟨rfl, rfl, rfl, rfl, rfl, rfl, trivial⟩ b139) rfl ?_
   refine sq_m (m_box rfl rfl) rfl (fun _ _ => ?_)
   refine sq_q (q_iface rfl Tryd.runUnderlying137 rfl) rfl ?_
   iterate 2 refine sqA rfl rfl ?_
   refine sqK [2, 3] rfl ?_
   refine sc_ret ?_
   refine se_then_ret ?_
   refine se_block_ret ?_
   refine se_then_ret ?_
   exact se_end (res2 Tryd.results22 rfl rfl) (fun w' hw => .inl ⟨hbad, ⟨_, _, _, rfl⟩, hw.eff⟩)
  have hv4 : (hd bs).version % 256 = 1 := by omega
  refine sqK [0, 4, 8, 9, 17, 20, 237] rfl ?_
  refine sc_cond_f rfl ?_
  refine scS ?_
  refine scK [0, 4, 8, 9, 17] rfl ?_
  refine scR ?_
  iterate 2 refine sqM rfl rfl ?_
  refine sq_q (q_slice_k (l := 28) (j := 28) rfl rfl Tryd.runUnderlying22 Tryd.sizeOf5 (by omega) (by omega) rfl) rfl ?_
  refine sq_q (q_call (v := .int .u32 (((hd bs).phoff : Nat) : Int)) (args2 rfl rfl) Tryd.call35 (fun w9 hw => hd32 e_phoff hxs hxl (by omega) (by omega) (by omega) (hw.get (i := 0) rfl))) rfl ?_
  refine sq_q (q_conv rfl Tryd.runUnderlying74 Tryd.runUnderlying2 rfl) rfl ?_
  refine sqA rfl rfl ?_
  refine sqKR [0, 4, 8, 9, 10, 17] rfl ?_
  iterate 2 refine sqM rfl rfl ?_
  refine sq_q (q_slice_k (l := 42) (j := 42) rfl rfl Tryd.runUnderlying22 Tryd.sizeOf5 (by omega) (by omega) rfl) rfl ?_
  refine sq_q (q_call (v := .int .u16 (((hd bs).phes : Nat) : Int)) (args2 rfl rfl) Tryd.call34 (fun w9 hw => hd16 e_phes hxs hxl (by omega) (by omega) (hw.get (i := 0) rfl))) rfl ?_
  refine sq_q (q_conv rfl Tryd.runUnderlying62 Tryd.runUnderlying3 (w_i64 (by omega) (by omega))) rfl ?_
  refine sqA rfl rfl ?_
  refine sqKR [0, 4, 8, 9, 10, 11, 17] rfl ?_
  iterate 2 refine sqM rfl rfl ?_
  refine sq_q (q_slice_k (l := 44) (j := 44) rfl rfl Tryd.runUnderlying22 Tryd.sizeOf5 (by omega) (by omega) rfl) rfl ?_
  refine sq_q (q_call (v := .int .u16 (((hd bs).phnum : Nat) : Int)) (args2 rfl rfl) Tryd.call34 (fun w9 hw => hd16 e_phnum hxs hxl (by omega) (by omega) (hw.get (i := 0) rfl))) rfl ?_
  refine sq_q (q_conv rfl Tryd.runUnderlying62 Tryd.runUnderlying3 (w_i64 (by omega) (by omega))) rfl ?_
  refine sqA rfl rfl ?_
  refine sqKR [0, 4, 8, 9, 10, 11, 12, 17] rfl ?_
  iterate 2 refine sqM rfl rfl ?_
  refine sq_q (q_slice_k (l := 32) (j := 32) rfl rfl Tryd.runUnderlying22 Tryd.sizeOf5 (by omega) (by omega) rfl) rfl ?_
  refine sq_q (q_call (v := .int .u32 (((hd bs).shoff : Nat) : Int)) (args2 rfl rfl) Tryd.call35 (fun w9 hw => hd32 e_shoff hxs hxl (by omega) (by omega) (by omega) (hw.get (i := 0) rfl))) rfl ?_
  refine sq_q (q_conv rfl Tryd.runUnderlying74 Tryd.runUnderlying2 rfl) rfl ?_
  refine sqA rfl rfl ?_
  refine sqKR [0, 4, 8, 9, 10, 11, 12, 13, 17] rfl ?_
  iterate 2 refine sqM rfl rfl ?_
  refine sq_q (q_slice_k (l := 46) (j := 46) rfl rfl Tryd.runUnderlying22 Tryd.sizeOf5 (by omega) (by omega) rfl) rfl ?_
  refine sq_q (q_call (v := .int .u16 (((hd bs).shes : Nat) : Int)) (args2 rfl rfl) Tryd.call34 (fun w9 hw => hd16 e_shes hxs hxl (by omega) (by omega) (hw.get (i := 0) rfl))) rfl ?_
  refine sq_q (q_conv rfl Tryd.runUnderlying62 Tryd.runUnderlying3 (w_i64 (by omega) (by omega))) rfl ?_
  refine sqA rfl rfl ?_
  refine sqKR [0, 4, 8, 9, 10, 11, 12, 13, 14, 17] rfl ?_
  iterate 2 refine sqM rfl rfl ?_
  refine sq_q (q_slice_k (l := 48) (j := 48) rfl rfl Tryd.runUnderlying22 Tryd.sizeOf5 (by omega) (by omega) rfl) rfl ?_
  refine sq_q (q_call (v := .int .u16 (((hd bs).shnum : Nat) : Int)) (args2 rfl rfl) Tryd.call34 (fun w9 hw => hd16 e_shnum hxs hxl (by omega) (by omega) (hw.get (i := 0) rfl))) rfl ?_
  refine sq_q (q_conv rfl Tryd.runUnderlying62 Tryd.runUnderlying3 (w_i64 (by omega) (by omega))) rfl ?_
  refine sqA rfl rfl ?_
  refine sqK [0, 4, 8, 9, 10, 11, 12, 13, 14, 15, 17] rfl ?_
  refine sc_region ?_
  iterate 2 refine sqM rfl rfl ?_
  refine sq_q (q_slice_k (l := 50) (j := 50) rfl rfl Tryd.runUnderlying22 Tryd.sizeOf5 (by omega) (by omega) rfl) rfl ?_
  refine sq_q (q_call (v := .int .u16 (((hd bs).names : Nat) : Int)) (args2 rfl rfl) Tryd.call34 (fun w9 hw => hd16 e_names hxs hxl (by omega) (by omega) (hw.get (i := 0) rfl))) rfl ?_
  refine sq_q (q_conv rfl Tryd.runUnderlying62 Tryd.runUnderlying3 (w_i64 (by omega) (by omega))) rfl ?_
  refine sqA rfl rfl ?_
  refine sq_nil ?_
  refine se_block ?_
  refine se_seq ?_
  iterate 2 refine scK [0, 4, 8, 9, 10, 11, 12, 13, 14, 15, 16] rfl ?_
  refine sc_mem (fun _ h => h.sublist (.cons _ (.cons_cons _ (List.Sublist.refl _)))) ?_
  exact hC _ _ _ _ ⟨hid, by rw [hwd]; show 52 ≤ bs.length; omega, hv4⟩ hbig hfp hsb
 have hxl : xs.length < 52 ∨ 52 = 0 := hx0
 have hbad : ¬ Good bs := fun hg => by have h9 := hg.head.size; rw [hwd, show wd false 52 64 = 52 from rfl] at h9; omega
 refine sqKR [0, 4, 8, 9, 17, 19] rfl ?_
 refine sqM rfl rfl ?_
 refine sq_q (q_iface_neq_nil rfl rfl Tryd.runUnderlying86) rfl ?_
 refine sqK [0, 4, 8, 9, 17, 19, 199] rfl ?_
 refine sc_cond_t rfl ?_
 refine scR ?_
 refine sqM rfl rfl ?_
 iterate 2 refine sqA rfl rfl ?_
 refine sqK [2, 3] rfl ?_
 refine sc_ret ?_
 refine se_then_ret ?_
 refine se_block_ret ?_
 refine se_then_ret ?_
 exact se_end (res2 Tryd.results22 rfl rfl) (fun w' hw => .inl ⟨hbad, ⟨_, _, _, rfl⟩, hw.eff⟩)

theorem nf_b_true {g gu : Gx} {bs : List UInt8} {u : Value} {ms : MM} {w0 : World} (cx : Cx g gu bs u ms w0) (hC : StC g gu bs u ms w0) (hwd : isWide bs = true) : StB g gu bs u ms w0 := by
 intro big fp sb N hid hbig hfp hsb
 have c4 : bv bs 4 = 2 := by have := hid.cls; simp [isWide] at hwd; omega
 have c6 : bv bs 6 = 1 := hid.ver
 obtain ⟨hl1, hl2, hl3, hl4, hl5, hl6, hl7, hl8, hl9, hl10, hl11⟩ := hd_lt bs
 have e_type : fld big bs 16 2 = (hd bs).type := by simp [hd, hwd, hbig, wd]
 have e_machine : fld big bs 18 2 = (hd bs).machine := by simp [hd, hwd, hbig, wd]
 have e_entry : fld big bs 24 8 = (hd bs).entry := by simp [hd, hwd, hbig, wd]
 have e_version : fld big bs 20 4 = (hd bs).version := by simp [hd, hwd, hbig, wd]
 have e_phoff : fld big bs 32 8 = (hd bs).phoff := by simp [hd, hwd, hbig, wd]
 have e_phes : fld big bs 54 2 = (hd bs).phes := by simp [hd, hwd, hbig, wd]
 have e_phnum : fld big bs 56 2 = (hd bs).phnum := by simp [hd, hwd, hbig, wd]
 have e_shoff : fld big bs 40 8 = (hd bs).shoff := by simp [hd, hwd, hbig, wd]
 have e_shes : fld big bs 58 2 = (hd bs).shes := by simp [hd, hwd, hbig, wd]
 have e_shnum : fld big bs 60 2 = (hd bs).shnum := by simp [hd, hwd, hbig, wd]
 have e_names : fld big bs 62 2 = (hd bs).names := by simp [hd, hwd, hbig, wd]
 refine sc_known fun hnd hge hlt => ?_
 have hnd1 : (((sb, srO (.iface 117 u) 0 0 (limOf 0 9223372036854775807) (.int .i64 (9223372036854775807 : Nat))) :: (1, g.o) :: ms).map Prod.fst).Nodup := by
  simp only [List.map_cons, List.nodup_cons, List.mem_cons, not_or] at hnd ⊢
  obtain ⟨_, ⟨b1, b2, b3⟩, ⟨c1, c2⟩, d1, d2⟩ := hnd
  exact ⟨⟨b1, b3⟩, c2, d2⟩
 have h1N : 1 ≠ N := by have := hlt (1, g.o) (by simp); simp at this; omega
 have hneN : ∀ p ∈ (sb, srO (.iface 117 u) 0 0 (limOf 0 9223372036854775807) (.int .i64 (9223372036854775807 : Nat))) :: ms, p.1 ≠ N := fun p hp => by
  have := hlt p (by rcases List.mem_cons.1 hp with rfl | hp <;> simp [*])
  omega
 refine sc_seq ?_
 refine scR ?_
 refine sqM rfl rfl ?_
 refine sq_q (q_nil rfl) rfl ?_
 refine sq_q (q_fieldj (j := 0) rfl Tryd.runUnderlying72 rfl Tryd.sizeOf66 rfl) rfl ?_
 refine sq_q (q_fieldj (j := 0) rfl Tryd.runUnderlying66 rfl Tryd.sizeOf57 rfl) rfl ?_
 refine sq_q (q_load1 rfl Tryd.isAgg57 (i := 0) rfl rfl) rfl ?_
 refine sqK [0, 4, 8, 9, 10, 11, 12, 13, 14, 15, 16, 188] rfl ?_
 refine sc_block ?_
 refine scR ?_
 refine sq_q (q_decF (q_eql rfl rfl) (by omega)) rfl ?_
 refine sqA rfl rfl ?_
 refine sqK [0, 4, 8, 9, 10, 11, 12, 13, 14, 15, 16, 188, 189] rfl ?_
 refine sc_cond_f rfl ?_
 refine scR ?_
 refine sq_q (q_decT (q_eql rfl rfl) (by omega)) rfl ?_
 refine sqA rfl rfl ?_
 refine sqK [0, 4, 8, 9, 10, 11, 12, 13, 14, 15, 16, 278] rfl ?_
 refine sc_cond_t rfl ?_
 refine scR ?_
 refine sq_m (m_make (kl := .i64) (kc := .i64) (len := 64) (cap := 64) rfl rfl Tryd.underlying22 (i := Tryd.t5) (z := .int .u8 0) (by kernel_rfl) (by kernel_rfl) (by kernel_rfl) rfl (Nat.le_refl _) (mk_fits (by omega)) (by omega)) rfl (fun _ _ => ?_)
 refine sqA rfl rfl ?_
 refine sqK [0, 4, 8, 9, 21] rfl ?_
 refine sc_seq ?_
 refine scR ?_
 iterate 2 refine sqM rfl rfl ?_
 refine sq_m ((rc_all cx.rc cx.len hnd1).call33 (mm' := fun xs => (N, .cells (lay (List.replicate 64 (.int .u8 0)) 0 xs).toArray 5 (0, 0)) :: (fp, fileO bs big 0 0 0 (.slice none 0 0) (.slice none 0 0)) :: (sb, rdO u 0 9223372036854775807) :: (1, g.o) :: (0, gu.o) :: ms) (i := 0) (off := 0) (m := 64) rfl rfl rfl rfl (fun p hp => by rcases List.mem_cons.1 hp with rfl | hp <;> simp [*]) (by simp) h1N hneN (by rw [List.length_replicate]; omega) (by omega) (by omega) (by omega) (fun _ => rfl) (fun h => absurd h (by omega))) rfl (fun z hz => ?_)
 refine sqM rfl rfl ?_
 iterate 2 refine sq_q (q_extract rfl rfl) rfl ?_
 iterate 2 refine sqA rfl rfl ?_
 obtain ⟨xs, e0, N2⟩ := z
 have hxs : xs = (bs.drop 0).take 64 := hz.1.1
 have hlen : xs.length = min 64 bs.length := by rw [hxs]; simp
 rcases hz.1.2 with ⟨rfl, hx0⟩ | ⟨rfl, hx0⟩
 ·
  have hxl : xs.length = 64 := hx0
  refine sqKR [0, 4, 8, 9, 21, 23] rfl ?_
  refine sqM rfl rfl ?_
  refine sq_q (q_nil_neq_nil rfl Tryd.runUnderlying86) rfl ?_
  refine sqK [0, 4, 8, 9, 21, 23, 288] rfl ?_
  refine sc_cond_f rfl ?_
  refine scS ?_
  refine scK [0, 4, 8, 9, 21] rfl ?_
  refine scR ?_
  iterate 3 refine sqM rfl rfl ?_
  refine sq_q (q_slice_k (l := 16) (j := 16) rfl rfl Tryd.runUnderlying22 Tryd.sizeOf5 (by omega) (by omega) rfl) rfl ?_
  refine sq_q (q_call (v := .int .u16 (((hd bs).type : Nat) : Int)) (args2 rfl rfl) Tryd.call34 (fun w9 hw => hd16 e_type hxs hxl (by omega) (by omega) (hw.get (i := 0) rfl))) rfl ?_
  refine sq_q (q_nil rfl) rfl ?_
  refine sq_q (q_fieldj (j := 0) rfl Tryd.runUnderlying72 rfl Tryd.sizeOf66 rfl) rfl ?_
  refine sq_q (q_fieldj (j := 6) rfl Tryd.runUnderlying66 rfl Tryd.sizeOf63 rfl) rfl ?_
  refine sq_m0 ((m_store rfl rfl Tryd.sizeOf63 rfl (i := 1) rfl rfl rfl (by intro h; omega))) (fun _ _ => ?_)
  refine sqKR [0, 4, 8, 9, 21] rfl ?_
  iterate 3 refine sqM rfl rfl ?_
  refine sq_q (q_slice_k (l := 18) (j := 18) rfl rfl Tryd.runUnderlying22 Tryd.sizeOf5 (by omega) (by omega) rfl) rfl ?_
  refine sq_q (q_call (v := .int .u16 (((hd bs).machine : Nat) : Int)) (args2 rfl rfl) Tryd.call34 (fun w9 hw => hd16 e_machine hxs hxl (by omega) (by omega) (hw.get (i := 0) rfl))) rfl ?_
  refine sq_q (q_nil rfl) rfl ?_
  refine sq_q (q_fieldj (j := 0) rfl Tryd.runUnderlying72 rfl Tryd.sizeOf66 rfl) rfl ?_
  refine sq_q (q_fieldj (j := 7) rfl Tryd.runUnderlying66 rfl Tryd.sizeOf64 rfl) rfl ?_
  refine sq_m0 ((m_store rfl rfl Tryd.sizeOf64 rfl (i := 1) rfl rfl rfl (by intro h; omega))) (fun _ _ => ?_)
  refine sqKR [0, 4, 8, 9, 21] rfl ?_
  iterate 3 refine sqM rfl rfl ?_
  refine sq_q (q_slice_k (l := 24) (j := 24) rfl rfl Tryd.runUnderlying22 Tryd.sizeOf5 (by omega) (by omega) rfl) rfl ?_
  refine sq_q (q_call (v := .int .u64 (((hd bs).entry : Nat) : Int)) (args2 rfl rfl) Tryd.call36 (fun w9 hw => hd64 e_entry hxs hxl (by omega) (by omega) (by omega) (hw.get (i := 0) rfl))) rfl ?_
  refine sq_q (q_nil rfl) rfl ?_
  refine sq_q (q_fieldj (j := 0) rfl Tryd.runUnderlying72 rfl Tryd.sizeOf66 rfl) rfl ?_
  refine sq_q (q_fieldj (j := 8) rfl Tryd.runUnderlying66 rfl Tryd.sizeOf23 rfl) rfl ?_
  refine sq_m0 ((m_store rfl rfl Tryd.sizeOf23 rfl (i := 1) rfl rfl rfl (by intro h; omega))) (fun _ _ => ?_)
  refine sqK [0, 4, 8, 9, 21] rfl ?_
  refine sc_seq ?_
  refine scR ?_
  iterate 2 refine sqM rfl rfl ?_
  refine sq_q (q_slice_k (l := 20) (j := 20) rfl rfl Tryd.runUnderlying22 Tryd.sizeOf5 (by omega) (by omega) rfl) rfl ?_
  refine sq_q (q_call (v := .int .u32 (((hd bs).version : Nat) : Int)) (args2 rfl rfl) Tryd.call35 (fun w9 hw => hd32 e_version hxs hxl (by omega) (by omega) (by omega) (hw.get (i := 0) rfl))) rfl ?_
  refine sq_q (q_conv rfl Tryd.runUnderlying74 Tryd.runUnderlying59 (m_u8 _)) rfl ?_
  refine sqA rfl rfl ?_
  refine sqKR [0, 4, 8, 9, 21, 24] rfl ?_
  iterate 2 refine sqM rfl rfl ?_
  refine sq_q (q_nil rfl) rfl ?_
  refine sq_q (q_fieldj (j := 0) rfl Tryd.runUnderlying72 rfl Tryd.sizeOf66 rfl) rfl ?_
  refine sq_q (q_fieldj (j := 2) rfl Tryd.runUnderlying66 rfl Tryd.sizeOf59 rfl) rfl ?_
  refine sq_q (q_load1 rfl Tryd.isAgg59 (i := 1) rfl rfl) rfl ?_
  refine sq_split (q_neq rfl rfl) rfl (fun h60_6 => ?_) (fun h60_6 => ?_)
  ·
   have hbad : ¬ Good bs := fun hg => by have h9 := hg.head.ver4; omega
   refine sqK [0, 4, 8, 9, 21, 24, 325] rfl ?_
   refine sc_cond_t rfl ?_
   refine scR ?_
   refine sqM rfl rfl ?_
   refine sq_q (q_iface rfl Tryd.runUnderlying59 rfl) rfl ?_
   refine sq_q (q_build (vs := [(0, _), (1, _), (2, _)]) ⟨rfl, rfl, rfl, rfl, rfl, rfl, trivial⟩ b139) rfl ?_
   refine sq_m (m_box rfl rfl) rfl (fun _ _ => ?_)
   refine sq_q (q_iface rfl Tryd.runUnderlying137 rfl) rfl ?_
   iterate 2 refine sqA rfl rfl ?_
   refine sqK [2, 3] rfl ?_
   refine sc_ret ?_
   refine se_then_ret ?_
   refine se_block_ret ?_
   refine se_then_ret ?_
   exact se_end (res2 Tryd.results22 rfl rfl) (fun w' hw => .inl ⟨hbad, ⟨_, _, _, rfl⟩, hw.eff⟩)
  have hv4 : (hd bs).version % 256 = 1 := by omega
  refine sqK [0, 4, 8, 9, 21, 24, 325] rfl ?_
  refine sc_cond_f rfl ?_
  refine scS ?_
  refine scK [0, 4, 8, 9, 21] rfl ?_
  refine scR ?_
  iterate 2 refine sqM rfl rfl ?_
  refine sq_q (q_slice_k (l := 32) (j := 32) rfl rfl Tryd.runUnderlying22 Tryd.sizeOf5 (by omega) (by omega) rfl) rfl ?_
  refine sq_q (q_call (v := .int .u64 (((hd bs).phoff : Nat) : Int)) (args2 rfl rfl) Tryd.call36 (fun w9 hw => hd64 e_phoff hxs hxl (by omega) (by omega) (by omega) (hw.get (i := 0) rfl))) rfl ?_
  refine sq_q (q_conv rfl Tryd.runUnderlying23 Tryd.runUnderlying2 rfl) rfl ?_
  refine sqA rfl rfl ?_
  refine sqKR [0, 4, 8, 9, 10, 21] rfl ?_
  iterate 2 refine sqM rfl rfl ?_
  refine sq_q (q_slice_k (l := 54) (j := 54) rfl rfl Tryd.runUnderlying22 Tryd.sizeOf5 (by omega) (by omega) rfl) rfl ?_
  refine sq_q (q_call (v := .int .u16 (((hd bs).phes : Nat) : Int)) (args2 rfl rfl) Tryd.call34 (fun w9 hw => hd16 e_phes hxs hxl (by omega) (by omega) (hw.get (i := 0) rfl))) rfl ?_
  refine sq_q (q_conv rfl Tryd.runUnderlying62 Tryd.runUnderlying3 (w_i64 (by omega) (by omega))) rfl ?_
  refine sqA rfl rfl ?_
  refine sqKR [0, 4, 8, 9, 10, 11, 21] rfl ?_
  iterate 2 refine sqM rfl rfl ?_
  refine sq_q (q_slice_k (l := 56) (j := 56) rfl rfl Tryd.runUnderlying22 Tryd.sizeOf5 (by omega) (by omega) rfl) rfl ?_
  refine sq_q (q_call (v := .int .u16 (((hd bs).phnum : Nat) : Int)) (args2 rfl rfl) Tryd.call34 (fun w9 hw => hd16 e_phnum hxs hxl (by omega) (by omega) (hw.get (i := 0) rfl))) rfl ?_
  refine sq_q (q_conv rfl Tryd.runUnderlying62 Tryd.runUnderlying3 (w_i64 (by omega) (by omega))) rfl ?_
  refine sqA rfl rfl ?_
  refine sqKR [0, 4, 8, 9, 10, 11, 12, 21] rfl ?_
  iterate 2 refine sqM rfl rfl ?_
  refine sq_q (q_slice_k (l := 40) (j := 40) rfl rfl Tryd.runUnderlying22 Tryd.sizeOf5 (by omega) (by omega) rfl) rfl ?_
  refine sq_q (q_call (v := .int .u64 (((hd bs).shoff : Nat) : Int)) (args2 rfl rfl) Tryd.call36 (fun w9 hw => hd64 e_shoff hxs hxl (by omega) (by omega) (by omega) (hw.get (i := 0) rfl))) rfl ?_
  refine sq_q (q_conv rfl Tryd.runUnderlying23 Tryd.runUnderlying2 rfl) rfl ?_
  refine sqA rfl rfl ?_
  refine sqKR [0, 4, 8, 9, 10, 11, 12, 13, 21] rfl ?_
  iterate 2 refine sqM rfl rfl ?_
  refine sq_q (q_slice_k (l := 58) (j := 58) rfl rfl Tryd.runUnderlying22 Tryd.sizeOf5 (by omega) (by omega) rfl) rfl ?_
  refine sq_q (q_call (v := .int .u16 (((hd bs).shes : Nat) : Int)) (args2 rfl rfl) Tryd.call34 (fun w9 hw => hd16 e_shes hxs hxl (by omega) (by omega) (hw.get (i := 0) rfl))) rfl ?_
  refine sq_q (q_conv rfl Tryd.runUnderlying62 Tryd.runUnderlying3 (w_i64 (by omega) (by omega))) rfl ?_
  refine sqA rfl rfl ?_
  refine sqKR [0, 4, 8, 9, 10, 11, 12, 13, 14, 21] rfl ?_
  iterate 2 refine sqM rfl rfl ?_
  refine sq_q (q_slice_k (l := 60) (j := 60) rfl rfl Tryd.runUnderlying22 Tryd.sizeOf5 (by omega) (by omega) rfl) rfl ?_
  refine sq_q (q_call (v := .int .u16 (((hd bs).shnum : Nat) : Int)) (args2 rfl rfl) Tryd.call34 (fun w9 hw => hd16 e_shnum hxs hxl (by omega) (by omega) (hw.get (i := 0) rfl))) rfl ?_
  refine sq_q (q_conv rfl Tryd.runUnderlying62 Tryd.runUnderlying3 (w_i64 (by omega) (by omega))) rfl ?_
  refine sqA rfl rfl ?_
  refine sqK [0, 4, 8, 9, 10, 11, 12, 13, 14, 15, 21] rfl ?_
  refine sc_region ?_
  iterate 2 refine sqM rfl rfl ?_
  refine sq_q (q_slice_k (l := 62) (j := 62) rfl rfl Tryd.runUnderlying22 Tryd.sizeOf5 (by omega) (by omega) rfl) rfl ?_
  refine sq_q (q_call (v := .int .u16 (((hd bs).names : Nat) : Int)) (args2 rfl rfl) Tryd.call34 (fun w9 hw => hd16 e_names hxs hxl (by omega) (by omega) (hw.get (i := 0) rfl))) rfl ?_
  refine sq_q (q_conv rfl Tryd.runUnderlying62 Tryd.runUnderlying3 (w_i64 (by omega) (by omega))) rfl ?_
  refine sqA rfl rfl ?_
  refine sq_nil ?_
  refine se_block ?_
  refine se_seq ?_
  iterate 2 refine scK [0, 4, 8, 9, 10, 11, 12, 13, 14, 15, 16] rfl ?_
  refine sc_mem (fun _ h => h.sublist (.cons _ (.cons_cons _ (List.Sublist.refl _)))) ?_
  exact hC _ _ _ _ ⟨hid, by rw [hwd]; show 64 ≤ bs.length; omega, hv4⟩ hbig hfp hsb
 have hxl : xs.length < 64 ∨ 64 = 0 := hx0
 have hbad : ¬ Good bs := fun hg => by have h9 := hg.head.size; rw [hwd, show wd true 52 64 = 64 from rfl] at h9; omega
 refine sqKR [0, 4, 8, 9, 21, 23] rfl ?_
 refine sqM rfl rfl ?_
 refine sq_q (q_iface_neq_nil rfl rfl Tryd.runUnderlying86) rfl ?_
 refine sqK [0, 4, 8, 9, 21, 23, 288] rfl ?_
 refine sc_cond_t rfl ?_
 refine scR ?_
 refine sqM rfl rfl ?_
 iterate 2 refine sqA rfl rfl ?_
 refine sqK [2, 3] rfl ?_
 refine sc_ret ?_
 refine se_then_ret ?_
 refine se_block_ret ?_
 refine se_then_ret ?_
 exact se_end (res2 Tryd.results22 rfl rfl) (fun w' hw => .inl ⟨hbad, ⟨_, _, _, rfl⟩, hw.eff⟩)

theorem nf_b {g gu : Gx} {bs : List UInt8} {u : Value} {ms : MM} {w0 : World} (cx : Cx g gu bs u ms w0) (hC : StC g gu bs u ms w0) : StB g gu bs u ms w0 := by
 cases hw : isWide bs
 ·
  exact nf_b_false cx hC hw
 ·
  exact nf_b_true cx hC hw

end Go.Proofs.YtgkjnkhoopcjgaaDoor
