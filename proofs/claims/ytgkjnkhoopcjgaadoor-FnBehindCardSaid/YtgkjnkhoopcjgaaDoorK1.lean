/- Part 1 of the proof: Sx1, Sx2, Sx3, Sx4, Sx5, Sx6, Sx7. By program out of the working texts. Conditions: as each theorem says. -/
import Derived.WalkKit
import Derived.Deep.Draws
import Derived.Orders
import Derived.LaidEql
import Derived.WideLaws
import Derived.WalkLawsBesides
/- The frame and the memory of a walk, as finite lists of facts: words of this proof's own, over any program. No condition. -/
namespace Go.Sx

/-! ## The frame -/

abbrev FM := List (Nat × Value)

def FM.get : FM → Nat → Option Value
  | [], _ => none
  | (s, v) :: r, t => match Nat.beq s t with
    | true => some v
    | false => FM.get r t

def FM.put (fm : FM) : Option Tmp → Value → FM
  | some d, v => (d, v) :: fm
  | none, _ => fm

def FM.ev (fm : FM) : Operand → Option Value
  | .tmp t => fm.get t
  | .const v => some v
  | .global g => some (.pointer (some ⟨g, 0, none⟩))
  | .func f => some (.func (.func f) #[] #[])

structure Agree (n : Nat) (fm : FM) (a : Act) : Prop where
  size : a.tmps.size = n
  defers : a.defers = []
  get : ∀ t v, fm.get t = some v → a.tmps[t]? = some v

theorem Agree.ev {n : Nat} {fm : FM} {a : Act} (h : Agree n fm a) {x : Operand} {v : Value} (hx : fm.ev x = some v) : a.eval x = v := by
  cases x with
  | tmp t =>
    have := h.get t v hx
    simp [Act.eval, this]
  | const u => simpa [FM.ev, Act.eval] using hx
  | global g => simpa [FM.ev, Act.eval] using hx
  | func f => simpa [FM.ev, Act.eval] using hx

theorem FM.get_cons (s : Nat) (v : Value) (r : FM) (t : Nat) : FM.get ((s, v) :: r) t = if s = t then some v else FM.get r t := by
  by_cases h : s = t
  · subst h; simp [FM.get]
  · have : Nat.beq s t = false := by
      cases hb : Nat.beq s t with
      | false => rfl
      | true => exact absurd (Nat.eq_of_beq_eq_true hb) h
    simp [FM.get, this, h]

theorem Agree.put {n : Nat} {fm : FM} {a : Act} (h : Agree n fm a) {d : Nat} (hd : d < n) (v : Value) : Agree n ((d, v) :: fm) (a.put (some d) v) := by
  refine ⟨by simp [Act.put, h.size], h.defers, fun t u ht => ?_⟩
  rw [FM.get_cons] at ht
  by_cases hdt : d = t
  · subst hdt
    rw [if_pos rfl] at ht
    have : d < a.tmps.size := by rw [h.size]; exact hd
    simp only [Act.put, Array.getElem?_setIfInBounds_self_of_lt this, ht]
  · rw [if_neg hdt] at ht
    simp only [Act.put, Array.getElem?_setIfInBounds_ne hdt]
    exact h.get t u ht

/-- Each listed slot holds what the longer list says of it. -/
def FM.Sub : FM → FM → Prop
  | [], _ => True
  | (t, v) :: r, fm => fm.get t = some v ∧ FM.Sub r fm

theorem FM.Sub.get {fs fm : FM} (h : FM.Sub fs fm) {t : Nat} {v : Value} (ht : fs.get t = some v) : fm.get t = some v := by
  induction fs with
  | nil => simp [FM.get] at ht
  | cons p r ih =>
    obtain ⟨s, u⟩ := p
    rw [FM.get_cons] at ht
    by_cases hs : s = t
    · subst hs; rw [if_pos rfl] at ht; cases ht; exact h.1
    · rw [if_neg hs] at ht; exact ih h.2 ht

theorem Agree.sub {n : Nat} {fm fs : FM} {a : Act} (h : Agree n fm a) (hs : FM.Sub fs fm) : Agree n fs a :=
  ⟨h.size, h.defers, fun _ _ ht => h.get _ _ (hs.get ht)⟩

/-! ## The memory -/

/-- What a piece of work may have done to what was there: the blocks in E, new blocks, draws; nothing else. -/
structure Eff (E : Nat → Prop) (w w' : World) : Prop where
  os : w'.os = w.os
  tape : w'.tape = w.tape
  output : w'.output = w.output
  size : w.heap.size ≤ w'.heap.size
  block : ∀ k, k < w.heap.size → ¬ E k → w'.heap[k]? = w.heap[k]?

theorem Eff.refl (E : Nat → Prop) (w : World) : Eff E w w := ⟨rfl, rfl, rfl, Nat.le_refl _, fun _ _ _ => rfl⟩

theorem Eff.mono {E F : Nat → Prop} {w w' : World} (h : Eff E w w') (hs : ∀ k, k < w.heap.size → E k → F k) : Eff F w w' :=
  ⟨h.os, h.tape, h.output, h.size, fun k hk hF => h.block k hk fun hE => hF (hs k hk hE)⟩

theorem Eff.trans {E F : Nat → Prop} {a b c : World} (h : Eff E a b) (k : Eff F b c) (hs : ∀ i, F i → i < a.heap.size → E i) : Eff E a c :=
  ⟨k.os.trans h.os, k.tape.trans h.tape, k.output.trans h.output, Nat.le_trans h.size k.size, fun i hi hE =>
    (k.block i (Nat.lt_of_lt_of_le hi h.size) fun hF => hE (hs i hF hi)).trans (h.block i hi hE)⟩

/-- The heap and all else but the draws are the same. -/
def Same (w w' : World) : Prop := w'.heap = w.heap ∧ w'.os = w.os ∧ w'.tape = w.tape ∧ w'.output = w.output

theorem Same.refl (w : World) : Same w w := ⟨rfl, rfl, rfl, rfl⟩
theorem Same.trans {a b c : World} (h : Same a b) (k : Same b c) : Same a c := ⟨k.1.trans h.1, k.2.1.trans h.2.1, k.2.2.1.trans h.2.2.1, k.2.2.2.trans h.2.2.2⟩
theorem Same.drawn (w : World) : Same w { w with drawn := w.drawn + 1 } := ⟨rfl, rfl, rfl, rfl⟩
theorem Same.eff {w w' : World} (h : Same w w') (E : Nat → Prop) : Eff E w w' := ⟨h.2.1, h.2.2.1, h.2.2.2, by rw [h.1]; exact Nat.le_refl _, fun k _ _ => by rw [h.1]⟩

abbrev MM := List (Nat × Obj)

def Has (mm : MM) (w : World) : Prop := ∀ p ∈ mm, w.heap[p.1]? = some p.2

structure Mem (w0 : World) (E : Nat → Prop) (N : Nat) (mm : MM) (w : World) : Prop where
  size : w.heap.size = N
  has : Has mm w
  nd : (mm.map Prod.fst).Nodup
  eff : Eff E w0 w

theorem Has.get {mm : MM} {w : World} (h : Has mm w) {i b : Nat} {o : Obj} (hi : mm[i]? = some (b, o)) : w.heap[b]? = some o :=
  h (b, o) (List.mem_of_getElem? hi)

theorem Has.same {mm : MM} {w w' : World} (h : Has mm w) (hs : Same w w') : Has mm w' := fun p hp => by rw [hs.1]; exact h p hp

theorem Mem.get {w0 : World} {E : Nat → Prop} {N : Nat} {mm : MM} {w : World} (h : Mem w0 E N mm w) {i b : Nat} {o : Obj} (hi : mm[i]? = some (b, o)) : w.heap[b]? = some o := h.has.get hi

theorem Mem.same {w0 : World} {E : Nat → Prop} {N : Nat} {mm : MM} {w w' : World} (h : Mem w0 E N mm w) (hs : Same w w') : Mem w0 E N mm w' :=
  ⟨by rw [hs.1]; exact h.size, h.has.same hs, h.nd, h.eff.trans (F := fun _ => False) (hs.eff _) fun _ hF => hF.elim⟩

theorem Mem.lt {w0 : World} {E : Nat → Prop} {N : Nat} {mm : MM} {w : World} (h : Mem w0 E N mm w) {p : Nat × Obj} (hp : p ∈ mm) : p.1 < N := by
  have := h.has p hp
  rw [← h.size]
  exact (Array.getElem?_eq_some_iff.1 this).1

theorem Mem.lt' {w0 : World} {E : Nat → Prop} {N : Nat} {mm : MM} {w : World} (h : Mem w0 E N mm w) {i b : Nat} {o : Obj} (hi : mm[i]? = some (b, o)) : b < N :=
  h.lt (List.mem_of_getElem? hi)

theorem Mem.ge {w0 : World} {E : Nat → Prop} {N : Nat} {mm : MM} {w : World} (h : Mem w0 E N mm w) : w0.heap.size ≤ N := by rw [← h.size]; exact h.eff.size

/-- A new block. -/
theorem Mem.alloc {w0 : World} {E : Nat → Prop} {N : Nat} {mm : MM} {w : World} (h : Mem w0 E N mm w) (o : Obj) : Mem w0 E (N + 1) ((N, o) :: mm) (w.alloc o) := by
  have hs := h.size
  refine ⟨by simp [hs], ?_, ?_, ?_⟩
  · intro p hp
    rcases List.mem_cons.1 hp with rfl | hp
    · rw [← hs]; exact heap_alloc_new w o
    · rw [heap_alloc_old w o (by rw [hs]; exact h.lt hp)]; exact h.has p hp
  · simp only [List.map_cons, List.nodup_cons]
    refine ⟨fun hm => ?_, h.nd⟩
    obtain ⟨p, hp, he⟩ := List.mem_map.1 hm
    have := h.lt hp
    omega
  · exact h.eff.trans (F := fun _ => False) ⟨rfl, rfl, rfl, by simp, fun k hk _ => heap_alloc_old w o hk⟩ fun _ hF => hF.elim

/-- One block's content is another; nothing else has turned. -/
structure Upd (w w' : World) (b : Nat) (o : Obj) : Prop where
  os : w'.os = w.os
  tape : w'.tape = w.tape
  output : w'.output = w.output
  size : w'.heap.size = w.heap.size
  here : w'.heap[b]? = some o
  block : ∀ k, k ≠ b → w'.heap[k]? = w.heap[k]?

theorem Mem.upd {w0 : World} {E : Nat → Prop} {N : Nat} {mm : MM} {w w' : World} (h : Mem w0 E N mm w) {i b : Nat} {o o' : Obj} (hi : mm[i]? = some (b, o))
    (hu : Upd w w' b o') (hE : b < w0.heap.size → E b) : Mem w0 E N (mm.set i (b, o')) w' := by
  have hil : i < mm.length := (List.getElem?_eq_some_iff.1 hi).1
  have hbi : mm[i] = (b, o) := (List.getElem?_eq_some_iff.1 hi).2
  have hkeys : (mm.set i (b, o')).map Prod.fst = mm.map Prod.fst := by
    rw [List.map_set]
    apply List.ext_getElem?
    intro j
    by_cases hj : i = j
    · subst hj; simp [hil, hbi]
    · simp [List.getElem?_set_ne hj]
  refine ⟨by rw [hu.size]; exact h.size, ?_, by rw [hkeys]; exact h.nd, ?_⟩
  · intro p hp
    obtain ⟨j, hj, hjp⟩ := List.getElem_of_mem hp
    have hjl : j < mm.length := by simpa using hj
    by_cases hij : i = j
    · subst hij
      simp at hjp
      subst hjp
      exact hu.here
    · have hp' : mm[j] = p := by rw [← hjp]; simp [List.getElem_set_ne hij]
      have hpm : p ∈ mm := hp' ▸ List.getElem_mem hjl
      have hne : p.1 ≠ b := by
        intro he
        have h1 : (mm.map Prod.fst)[i]'(by simpa using hil) = b := by simp [hbi]
        have h2 : (mm.map Prod.fst)[j]'(by simpa using hjl) = b := by simp [hp', he]
        have hi' : i < (mm.map Prod.fst).length := by simpa using hil
        have hj' : j < (mm.map Prod.fst).length := by simpa using hjl
        rcases Nat.lt_trichotomy i j with hlt | heq | hgt
        · exact List.pairwise_iff_getElem.1 h.nd i j hi' hj' hlt (h1.trans h2.symm)
        · exact hij heq
        · exact List.pairwise_iff_getElem.1 h.nd j i hj' hi' hgt (h2.trans h1.symm)
      rw [hu.block _ hne]
      exact h.has p hpm
  · refine h.eff.trans (F := fun k => k = b) ⟨hu.os, hu.tape, hu.output, by rw [hu.size]; exact Nat.le_refl _, fun k _ hk => hu.block k hk⟩ ?_
    rintro k rfl hk
    exact hE hk

/-- A part of what is known. -/
theorem Mem.pick {w0 : World} {E : Nat → Prop} {N : Nat} {mm ms : MM} {w : World} (h : Mem w0 E N mm w) (hs : List.Subset ms mm) (hn : (ms.map Prod.fst).Nodup) : Mem w0 E N ms w :=
  ⟨h.size, fun p hp => h.has p (hs hp), hn, h.eff⟩

theorem Mem.sublist {w0 : World} {E : Nat → Prop} {N : Nat} {mm ms : MM} {w : World} (h : Mem w0 E N mm w) (hs : ms.Sublist mm) : Mem w0 E N ms w :=
  h.pick hs.subset ((hs.map Prod.fst).nodup h.nd)

theorem Mem.perm {w0 : World} {E : Nat → Prop} {N : Nat} {mm ms : MM} {w : World} (h : Mem w0 E N mm w) (hs : ms.Perm mm) : Mem w0 E N ms w :=
  h.pick hs.subset ((hs.map Prod.fst).nodup_iff.2 h.nd)

theorem Mem.start (w : World) (E : Nat → Prop) (mm : MM) (hh : Has mm w) (hn : (mm.map Prod.fst).Nodup) : Mem w E w.heap.size mm w :=
  ⟨rfl, hh, hn, Eff.refl _ _⟩

/-- Behind a call: what it may have written (F), what is kept (ms, none of it in F), what it tells of new (nn). -/
theorem Mem.call {w0 : World} {E F : Nat → Prop} {N : Nat} {mm : MM} {w w' : World} (h : Mem w0 E N mm w) (he : Eff F w w') (hF : ∀ k, F k → k < w0.heap.size → E k)
    (ms nn : MM) (hs : List.Subset ms mm) (hms : ∀ p ∈ ms, ¬ F p.1) (hnn : Has nn w') (hnd : ((nn ++ ms).map Prod.fst).Nodup) : Mem w0 E w'.heap.size (nn ++ ms) w' := by
  refine ⟨rfl, ?_, hnd, h.eff.trans he hF⟩
  intro p hp
  rcases List.mem_append.1 hp with hp | hp
  · exact hnn p hp
  · rw [he.block p.1 (by rw [h.size]; exact h.lt (hs hp)) (hms p hp)]
    exact h.has p (hs hp)

/-- Behind a call that wrote nothing old. -/
theorem Mem.call_new {w0 : World} {E : Nat → Prop} {N : Nat} {mm : MM} {w w' : World} (h : Mem w0 E N mm w) (he : Eff (fun _ => False) w w') (nn : MM) (hnn : Has nn w')
    (hge : ∀ p ∈ nn, N ≤ p.1) (hnd : (nn.map Prod.fst).Nodup) : Mem w0 E w'.heap.size (nn ++ mm) w' := by
  refine h.call he (fun _ hF => hF.elim) mm nn (fun _ h => h) (fun _ _ hF => hF) hnn ?_
  rw [List.map_append]
  refine List.nodup_append.2 ⟨hnd, h.nd, ?_⟩
  intro a ha b hb hab
  obtain ⟨p, hp, rfl⟩ := List.mem_map.1 ha
  obtain ⟨q, hq, rfl⟩ := List.mem_map.1 hb
  have := hge p hp
  have := h.lt hq
  omega

end Go.Sx
/- The steps of a walk over frames and memory that are lists of facts: operations in the text's order, code, and a region that draws its order. No condition. -/
namespace Go.Sx
variable {P : Program}

/-- The operands read as the list says. -/
def Agr (fm : FM) (ρ : Operand → Value) : Prop := ∀ x v, fm.ev x = some v → ρ x = v

theorem Agree.agr {n : Nat} {fm : FM} {a : Act} (h : Agree n fm a) : Agr fm a.eval := fun _ _ hx => h.ev hx

/-- What an operation's run comes to. -/
def Out (P : Program) (R : Value → World → Prop) : Result Next → Prop
  | .ok (.value v) w' => R v w'
  | .ok .skip w' => R undef w'
  | .ok (.enter f args) w' => Calls P f args w' fun e w'' => ∃ v, e = .returned v ∧ R v w''
  | _ => False

theorem Out.mono {R R' : Value → World → Prop} {r : Result Next} (h : Out P R r) (hr : ∀ v w, R v w → R' v w) : Out P R' r := by
  cases r with
  | ok x w' =>
    cases x <;> first
      | exact hr _ _ h
      | exact Calls.mono h fun e w'' ⟨v, he, hv⟩ => ⟨v, he, hr _ _ hv⟩
      | exact h.elim
  | halt x w' => exact h.elim

theorem wp_of_out {o : Oper} {a : Act} {w : World} {K : Act → World → Prop} {Q : Exit → Act → World → Prop} {R : Value → World → Prop}
    (h : Out P R ((execOp a.eval o).run P w)) (hk : ∀ v w', R v w' → K (a.put o.dst v) w') : o.wp P a w K Q := by
  unfold Oper.wp
  generalize (execOp a.eval o).run P w = r at *
  cases r with
  | ok x w' =>
    cases x <;> first
      | exact hk _ _ h
      | exact Calls.mono h fun e w'' ⟨v, he, hv⟩ => by subst he; exact hk _ _ hv
      | exact h.elim
  | halt x w' => exact h.elim

/-- One value, whatever the world in which the listed blocks lie; the world stays but for draws. -/
def Quiet (P : Program) (fm : FM) (mm : MM) (o : Oper) (v : Value) : Prop :=
  ∀ ρ, Agr fm ρ → ∀ w, Has mm w → Out P (fun u w' => u = v ∧ Same w w') ((execOp ρ o).run P w)

theorem Quiet.more {fm : FM} {mm ms : MM} {o : Oper} {v : Value} (h : Quiet P fm mm o v) (hs : List.Subset mm ms) : Quiet P fm ms o v :=
  fun ρ hρ w hw => h ρ hρ w fun p hp => hw p (hs hp)

/-! ## In the text's order -/

def Sq (P : Program) (ops : Array Oper) (Q : Exit → Act → World → Prop) (n : Nat) (w0 : World) (E : Nat → Prop) (l : List Oper) (fm : FM) (N : Nat) (mm : MM) : Prop :=
  ∀ a w, Agree n fm a → Mem w0 E N mm w → wpList P ops Q l a w

def Se (Q : Exit → Act → World → Prop) (e : Exit) (n : Nat) (w0 : World) (E : Nat → Prop) (fm : FM) (N : Nat) (mm : MM) : Prop :=
  ∀ a w, Agree n fm a → Mem w0 E N mm w → Q e a w

def Sc (P : Program) (c : Code) (Q : Exit → Act → World → Prop) (n : Nat) (w0 : World) (E : Nat → Prop) (fm : FM) (N : Nat) (mm : MM) : Prop :=
  ∀ a w, Agree n fm a → Mem w0 E N mm w → c.wp P Q a w

section
variable {ops : Array Oper} {Q : Exit → Act → World → Prop} {n : Nat} {w0 : World} {E : Nat → Prop} {fm : FM} {N : Nat} {mm : MM} {rest : List Oper}
variable {d : Nat} {op : Op} {ty : TypeId} {pos : String} {after : Array Edge} {v : Value}

theorem wpList_out {o : Oper} {a : Act} {w : World} {R : Value → World → Prop} (hg : o.guard = none) (h : Out P R ((execOp a.eval o).run P w))
    (hk : ∀ v w', R v w' → wpList P ops Q rest (a.put o.dst v) w') : wpList P ops Q (o :: rest) a w :=
  wpList_plain hg fun _ hK => wp_of_out h fun v w' hR => hK _ _ (hk v w' hR)

theorem sq_nil (h : Se Q .normal n w0 E fm N mm) : Sq P ops Q n w0 E [] fm N mm := h

/-- A quiet operation. -/
theorem sq_q (hq : Quiet P fm mm ⟨some d, op, ty, pos, after, none⟩ v) (hd : Nat.blt d n = true) (h : Sq P ops Q n w0 E rest ((d, v) :: fm) N mm) :
    Sq P ops Q n w0 E (⟨some d, op, ty, pos, after, none⟩ :: rest) fm N mm := fun a w ha hw =>
  wpList_out rfl (hq a.eval ha.agr w hw.has) fun u w' ⟨hu, hs⟩ => by
    subst hu
    exact h _ _ (ha.put (Eq.mp Nat.blt_eq hd) _) (hw.same hs)

/-- A quiet operation whose value nobody keeps. -/
theorem sq_q0 (hq : Quiet P fm mm ⟨none, op, ty, pos, after, none⟩ v) (h : Sq P ops Q n w0 E rest fm N mm) :
    Sq P ops Q n w0 E (⟨none, op, ty, pos, after, none⟩ :: rest) fm N mm := fun a w ha hw =>
  wpList_out rfl (hq a.eval ha.agr w hw.has) fun _ _ ⟨_, hs⟩ => h _ _ ha (hw.same hs)

/-- What an operation does that turns memory. -/
def Main (P : Program) (w0 : World) (E : Nat → Prop) (fm : FM) (N : Nat) (mm : MM) (o : Oper) {ι : Type} (V : ι → Value) (N' : ι → Nat) (mm' : ι → MM) (F : ι → Prop) : Prop :=
  ∀ ρ, Agr fm ρ → ∀ w, Mem w0 E N mm w → Out P (fun u w' => ∃ x, F x ∧ u = V x ∧ Mem w0 E (N' x) (mm' x) w') ((execOp ρ o).run P w)

theorem sq_m {ι : Type} {V : ι → Value} {N' : ι → Nat} {mm' : ι → MM} {F : ι → Prop} (hq : Main P w0 E fm N mm ⟨some d, op, ty, pos, after, none⟩ V N' mm' F) (hd : Nat.blt d n = true)
    (h : ∀ x, F x → Sq P ops Q n w0 E rest ((d, V x) :: fm) (N' x) (mm' x)) :
    Sq P ops Q n w0 E (⟨some d, op, ty, pos, after, none⟩ :: rest) fm N mm := fun a w ha hw =>
  wpList_out rfl (hq a.eval ha.agr w hw) fun u w' ⟨x, hF, hu, hs⟩ => by
    subst hu
    exact h x hF _ _ (ha.put (Eq.mp Nat.blt_eq hd) _) hs

theorem sq_m0 {ι : Type} {V : ι → Value} {N' : ι → Nat} {mm' : ι → MM} {F : ι → Prop} (hq : Main P w0 E fm N mm ⟨none, op, ty, pos, after, none⟩ V N' mm' F)
    (h : ∀ x, F x → Sq P ops Q n w0 E rest fm (N' x) (mm' x)) :
    Sq P ops Q n w0 E (⟨none, op, ty, pos, after, none⟩ :: rest) fm N mm := fun a w ha hw =>
  wpList_out rfl (hq a.eval ha.agr w hw) fun _ _ ⟨x, hF, _, hs⟩ => h x hF _ _ ha hs

theorem execOp_guard (ρ : Operand → Value) (dst : Option Tmp) (g g' : Option (Nat × Bool)) : execOp ρ ⟨dst, op, ty, pos, after, g⟩ = execOp ρ ⟨dst, op, ty, pos, after, g'⟩ := by
  cases op <;> rfl

theorem asks_guard (a : Act) (w : World) (dst : Option Tmp) (g g' : Option (Nat × Bool)) (h : Oper.asks P ⟨dst, op, ty, pos, after, g⟩ a w) : Oper.asks P ⟨dst, op, ty, pos, after, g'⟩ a w := by
  unfold Oper.asks at *
  rw [execOp_guard a.eval dst g' g]
  exact h

theorem yielded_of {a : Act} {j t : Nat} {c : Bool} (hj : (ops[j]?).bind (·.dst) = some t) (ha : Agree n fm a) (hc : fm.get t = some (.bool c)) : yielded ops a.tmps j = some c := by
  simp [yielded, hj, ha.get t _ hc]

/-- The guard says yes. -/
theorem sq_gy {dst : Option Tmp} {j t : Nat} {b c : Bool} (hj : (ops[j]?).bind (·.dst) = some t) (hc : fm.get t = some (.bool c)) (hb : c = b)
    (h : Sq P ops Q n w0 E (⟨dst, op, ty, pos, after, none⟩ :: rest) fm N mm) : Sq P ops Q n w0 E (⟨dst, op, ty, pos, after, some (j, b)⟩ :: rest) fm N mm := fun a w ha hw => by
  have h1 := h a w ha hw
  have hy := yielded_of hj ha hc
  unfold wpList at h1 ⊢
  rw [if_pos (by simp [Region.wanted])] at h1
  rw [if_pos (by simp [Region.wanted, hy, hb])]
  rcases h1 with h1 | ⟨h1, h2⟩
  · left
    unfold Oper.wp at *
    rw [execOp_guard a.eval dst (some (j, b)) none]
    exact h1
  · exact .inr ⟨asks_guard a w dst _ _ h1, h2⟩

/-- The guard says no. -/
theorem sq_gn {d : Nat} {j t : Nat} {b c : Bool} (hj : (ops[j]?).bind (·.dst) = some t) (hc : fm.get t = some (.bool c)) (hb : c = !b) (hd : Nat.blt d n = true)
    (h : Sq P ops Q n w0 E rest ((d, undef) :: fm) N mm) : Sq P ops Q n w0 E (⟨some d, op, ty, pos, after, some (j, b)⟩ :: rest) fm N mm := fun a w ha hw => by
  have hy := yielded_of hj ha hc
  refine wpList_skip (by cases b <;> simp [Region.wanted, hy, hb]) ?_
  exact h _ _ (ha.put (Eq.mp Nat.blt_eq hd) _) hw

theorem sq_sub {fs : FM} (hs : FM.Sub fs fm) {l : List Oper} (h : Sq P ops Q n w0 E l fs N mm) : Sq P ops Q n w0 E l fm N mm := fun a w ha hw => h a w (ha.sub hs) hw

/-! ## Code -/

theorem sc_sub {c : Code} {fs : FM} (hs : FM.Sub fs fm) (h : Sc P c Q n w0 E fs N mm) : Sc P c Q n w0 E fm N mm := fun a w ha hw => h a w (ha.sub hs) hw
theorem sc_mem {c : Code} {ms : MM} (hs : ∀ w, Mem w0 E N mm w → Mem w0 E N ms w) (h : Sc P c Q n w0 E fm N ms) : Sc P c Q n w0 E fm N mm := fun a w ha hw => h a w ha (hs w hw)
theorem sq_mem {l : List Oper} {ms : MM} (hs : ∀ w, Mem w0 E N mm w → Mem w0 E N ms w) (h : Sq P ops Q n w0 E l fm N ms) : Sq P ops Q n w0 E l fm N mm := fun a w ha hw => h a w ha (hs w hw)
/-- A fact on what is known of memory. -/
theorem sc_fact {c : Code} {F : Prop} (hF : ∀ w, Mem w0 E N mm w → F) (h : F → Sc P c Q n w0 E fm N mm) : Sc P c Q n w0 E fm N mm := fun a w ha hw => h (hF w hw) a w ha hw
theorem sq_fact {l : List Oper} {F : Prop} (hF : ∀ w, Mem w0 E N mm w → F) (h : F → Sq P ops Q n w0 E l fm N mm) : Sq P ops Q n w0 E l fm N mm := fun a w ha hw => h (hF w hw) a w ha hw

theorem sc_seq {x y : Code} (h : Sc P x (Exit.then (y.wp P Q) Q) n w0 E fm N mm) : Sc P (.seq x y) Q n w0 E fm N mm := fun a w ha hw => wp_seq (h a w ha hw)
theorem sc_skip (h : Se Q .normal n w0 E fm N mm) : Sc P .skip Q n w0 E fm N mm := fun a w ha hw => wp_skip (h a w ha hw)
theorem sc_label {l : Nat} (h : Se Q .normal n w0 E fm N mm) : Sc P (.label l) Q n w0 E fm N mm := fun a w ha hw => wp_label (h a w ha hw)
theorem sc_exit {id : Nat} (h : Se Q (.exit id) n w0 E fm N mm) : Sc P (.exit id) Q n w0 E fm N mm := fun a w ha hw => wp_exit (h a w ha hw)
theorem sc_ret (h : Se Q .ret n w0 E fm N mm) : Sc P .ret Q n w0 E fm N mm := fun a w ha hw => wp_ret (h a w ha hw)
theorem sc_block {id : Nat} {c : Code} (h : Sc P c (Exit.inBlock id Q) n w0 E fm N mm) : Sc P (.block id c) Q n w0 E fm N mm := fun a w ha hw => wp_block (h a w ha hw)
theorem sc_cond {c : Operand} {x y : Code} {t : Bool} (hc : fm.ev c = some (.bool t)) (h1 : t = true → Sc P x Q n w0 E fm N mm) (h2 : t = false → Sc P y Q n w0 E fm N mm) :
    Sc P (.cond c x y) Q n w0 E fm N mm := fun a w ha hw => wp_cond_split (ha.ev hc) (fun h => h1 h a w ha hw) (fun h => h2 h a w ha hw)
theorem sc_cond_t {c : Operand} {x y : Code} (hc : fm.ev c = some (.bool true)) (h1 : Sc P x Q n w0 E fm N mm) : Sc P (.cond c x y) Q n w0 E fm N mm := fun a w ha hw => wp_cond_true (ha.ev hc) (h1 a w ha hw)
theorem sc_cond_f {c : Operand} {x y : Code} (hc : fm.ev c = some (.bool false)) (h1 : Sc P y Q n w0 E fm N mm) : Sc P (.cond c x y) Q n w0 E fm N mm := fun a w ha hw => wp_cond_false (ha.ev hc) (h1 a w ha hw)
theorem sc_region {id : Nat} {l : List Oper} (h : Sq P l.toArray Q n w0 E l fm N mm) : Sc P (.region id l.toArray false) Q n w0 E fm N mm := fun a w ha hw => wp_region_lit (h a w ha hw)

theorem sc_loop {c : Code} {ι : Type} (S : ι → FM) (L : ι → Nat) (M : ι → MM) (F : ι → Prop) (μ : ι → Nat) (i0 : ι)
    (h0 : F i0 ∧ FM.Sub (S i0) fm ∧ L i0 = N ∧ ∀ w, Mem w0 E N mm w → Mem w0 E (L i0) (M i0) w)
    (h : ∀ i, F i → Sc P c (Exit.then (fun a w => ∃ j, μ j < μ i ∧ F j ∧ Agree n (S j) a ∧ Mem w0 E (L j) (M j) w) Q) n w0 E (S i) (L i) (M i)) : Sc P (.loop c) Q n w0 E fm N mm := by
  intro a w ha hw
  -- the measure, by a ghost: induction on the measure of the state
  have key : ∀ m i, μ i ≤ m → F i → ∀ a w, Agree n (S i) a → Mem w0 E (L i) (M i) w → ∀ (b : Frame) (k : List Item) (cs : List Frame),
      ∃ e a' w', Q e a' w' ∧ Arrives P (lone (b.at a (.code c :: .inLoop c :: k)) cs w) b k cs e a' w' := by
    intro m
    induction m with
    | zero =>
      intro i hm hF a w ha hw b k cs
      obtain ⟨e, a₁, w₁, hq, harr⟩ := h i hF a w ha hw b (.inLoop c :: k) cs
      cases e with
      | normal => obtain ⟨j, hj, _⟩ := hq; omega
      | exit id => exact ⟨_, a₁, w₁, hq, .pass (x := .inLoop c) rfl (fun _ _ => .inl (by simp)) harr⟩
      | goto l => exact ⟨_, a₁, w₁, hq, .pass (x := .inLoop c) rfl (fun _ _ => .inl (by simp)) harr⟩
      | ret => exact ⟨_, a₁, w₁, hq, .pass (x := .inLoop c) rfl (fun _ _ => .inl (by simp)) harr⟩
      | panic ch => exact ⟨_, a₁, w₁, hq, .pass (x := .inLoop c) rfl (fun _ _ => .inl (by simp)) harr⟩
      | outgrown => exact ⟨_, a₁, w₁, hq, .pass (x := .inLoop c) rfl (fun _ _ => .inl (by simp)) harr⟩
    | succ m ih =>
      intro i hm hF a w ha hw b k cs
      obtain ⟨e, a₁, w₁, hq, harr⟩ := h i hF a w ha hw b (.inLoop c :: k) cs
      cases e with
      | normal =>
        obtain ⟨j, hj, hFj, haj, hwj⟩ := hq
        obtain ⟨e₂, a₂, w₂, hq₂, harr₂⟩ := ih j (by omega) hFj a₁ w₁ haj hwj b k cs
        exact ⟨e₂, a₂, w₂, hq₂, .of_steps (Steps.trans harr (.one step_inLoop)) harr₂⟩
      | exit id => exact ⟨_, a₁, w₁, hq, .pass (x := .inLoop c) rfl (fun _ _ => .inl (by simp)) harr⟩
      | goto l => exact ⟨_, a₁, w₁, hq, .pass (x := .inLoop c) rfl (fun _ _ => .inl (by simp)) harr⟩
      | ret => exact ⟨_, a₁, w₁, hq, .pass (x := .inLoop c) rfl (fun _ _ => .inl (by simp)) harr⟩
      | panic ch => exact ⟨_, a₁, w₁, hq, .pass (x := .inLoop c) rfl (fun _ _ => .inl (by simp)) harr⟩
      | outgrown => exact ⟨_, a₁, w₁, hq, .pass (x := .inLoop c) rfl (fun _ _ => .inl (by simp)) harr⟩
  intro b k cs
  obtain ⟨e, a', w', hq, harr⟩ := key (μ i0) i0 (Nat.le_refl _) h0.1 a w (ha.sub h0.2.1) (h0.2.2.2 w hw) b k cs
  exact ⟨e, a', w', hq, .of_steps (.one step_loop) harr⟩

/-! ## Ways out -/

theorem se_seq {y : Code} (h : Sc P y Q n w0 E fm N mm) : Se (Exit.then (y.wp P Q) Q) .normal n w0 E fm N mm := h
theorem se_then_exit {K : Act → World → Prop} {id : Nat} (h : Se Q (.exit id) n w0 E fm N mm) : Se (Exit.then K Q) (.exit id) n w0 E fm N mm := h
theorem se_then_ret {K : Act → World → Prop} (h : Se Q .ret n w0 E fm N mm) : Se (Exit.then K Q) .ret n w0 E fm N mm := h
theorem se_block {id : Nat} (h : Se Q .normal n w0 E fm N mm) : Se (Exit.inBlock id Q) .normal n w0 E fm N mm := h
theorem se_block_ret {id : Nat} (h : Se Q .ret n w0 E fm N mm) : Se (Exit.inBlock id Q) .ret n w0 E fm N mm := h
theorem se_block_hit {id : Nat} (h : Se Q .normal n w0 E fm N mm) : Se (Exit.inBlock id Q) (.exit id) n w0 E fm N mm := fun a w ha hw => by
  show Exit.inBlock id Q (.exit id) a w
  simp only [Exit.inBlock, if_true]
  exact h a w ha hw
theorem se_block_miss {id id' : Nat} (hne : Nat.beq id' id = false) (h : Se Q (.exit id') n w0 E fm N mm) : Se (Exit.inBlock id Q) (.exit id') n w0 E fm N mm := fun a w ha hw => by
  show Exit.inBlock id Q (.exit id') a w
  have hne' : id' ≠ id := fun e => by subst e; simp at hne
  simp only [Exit.inBlock, if_neg hne']
  exact h a w ha hw
theorem se_loop {ι : Type} {S : ι → FM} {L : ι → Nat} {M : ι → MM} {F : ι → Prop} {μ : ι → Nat} {i : ι} (j : ι) (hμ : μ j < μ i) (hF : F j) (hS : FM.Sub (S j) fm) (hM : ∀ w, Mem w0 E N mm w → Mem w0 E (L j) (M j) w) :
    Se (Exit.then (fun a w => ∃ j, μ j < μ i ∧ F j ∧ Agree n (S j) a ∧ Mem w0 E (L j) (M j) w) Q) .normal n w0 E fm N mm := fun _ w ha hw => ⟨j, hμ, hF, ha.sub hS, hM w hw⟩

/-- The end of a body. -/
theorem se_end {fn : Func} {R : Ending → World → Prop} {v : Value} (hr : ∀ a w, Agree n fm a → Mem w0 E N mm w → (results fn a.tmps).run P w = .ok v w) (h : ∀ w, Mem w0 E N mm w → R (.returned v) w) :
    Se (bodyPost P fn R) .ret n w0 E fm N mm := fun a w ha hw => ⟨ha.defers, v, hr a w ha hw, h w hw⟩
theorem se_end' {fn : Func} {R : Ending → World → Prop} {v : Value} (hr : ∀ a w, Agree n fm a → Mem w0 E N mm w → (results fn a.tmps).run P w = .ok v w) (h : ∀ w, Mem w0 E N mm w → R (.returned v) w) :
    Se (bodyPost P fn R) .normal n w0 E fm N mm := fun a w ha hw => ⟨ha.defers, v, hr a w ha hw, h w hw⟩

end
end Go.Sx
/- The operations one by one, over frames and memory that are lists of facts: those that leave memory alone. No condition. -/
namespace Go.Sx
variable {P : Program} {fm : FM} {mm : MM} {d : Option Nat} {ty : TypeId} {pos : String} {after : Array Edge} {g : Option (Nat × Bool)} {v vx vy : Value} {x y : Operand}

theorem q_run {o : Oper} (h : ∀ ρ, Agr fm ρ → ∀ w, Has mm w → (execOp ρ o).run P w = .ok (.value v) w) : Quiet P fm mm o v := fun ρ hρ w hw => by
  rw [h ρ hρ w hw]; exact ⟨rfl, Same.refl w⟩

theorem q_move (hx : fm.ev x = some v) : Quiet P fm mm ⟨d, .move x, ty, pos, after, g⟩ v := q_run fun ρ hρ w _ => by simp [execOp, hρ _ _ hx]
theorem q_assign (hx : fm.ev x = some v) : Quiet P fm mm ⟨d, .assign x, ty, pos, after, g⟩ v := q_run fun ρ hρ w _ => by simp [execOp, hρ _ _ hx]

theorem q_pick_t {c a b : Operand} (hc : fm.ev c = some (.bool true)) (ha : fm.ev a = some v) : Quiet P fm mm ⟨d, .pick c a b, ty, pos, after, g⟩ v :=
  q_run fun ρ hρ w _ => by simp [execOp, hρ _ _ hc, hρ _ _ ha, asBool]
theorem q_pick_f {c a b : Operand} (hc : fm.ev c = some (.bool false)) (hb : fm.ev b = some v) : Quiet P fm mm ⟨d, .pick c a b, ty, pos, after, g⟩ v :=
  q_run fun ρ hρ w _ => by simp [execOp, hρ _ _ hc, hρ _ _ hb, asBool]
theorem q_pick {c a b : Operand} {t : Bool} {va vb : Value} (hc : fm.ev c = some (.bool t)) (ha : fm.ev a = some va) (hb : fm.ev b = some vb) : Quiet P fm mm ⟨d, .pick c a b, ty, pos, after, g⟩ (if t = true then va else vb) :=
  q_run fun ρ hρ w _ => by cases t <;> simp [execOp, hρ _ _ hc, hρ _ _ ha, hρ _ _ hb, asBool]

theorem q_extract {t : Operand} {i : Nat} {vs : Array Value} (ht : fm.ev t = some (.tuple vs)) (hi : vs[i]? = some v) : Quiet P fm mm ⟨d, .extract t i, ty, pos, after, g⟩ v :=
  q_run fun ρ hρ w _ => by simp [execOp, hρ _ _ ht, Instr.extract, hi]

theorem q_iface {t : TypeId} {ds : TypeDesc} (hx : fm.ev x = some v) (hu : ∀ w, (underlying t).run P w = .ok ds w) (hn : (match ds with | .interface _ => false | _ => true) = true) :
    Quiet P fm mm ⟨d, .makeInterface t x, ty, pos, after, g⟩ (.iface t v) :=
  q_run fun ρ hρ w _ => by cases ds <;> simp_all [execOp, hρ _ _ hx, Instr.makeInterface]

theorem addr_add (b o k : Nat) : (⟨b, o, none⟩ : Addr).add k = ⟨b, o + k, none⟩ := by
  unfold Addr.add
  by_cases h : k = 0 <;> simp [h]

theorem q_field {t : TypeId} {i b o s : Nat} {fs : Array Field} {f : Field} (hx : fm.ev x = some (.pointer (some ⟨b, o, none⟩))) (hu : ∀ w, (underlying t).run P w = .ok (.struct fs) w)
    (hf : fs[i]? = some f) (hs : ∀ w, (sizeOf f.type).run P w = .ok (s + 1) w) : Quiet P fm mm ⟨d, .fieldAddr t x i, ty, pos, after, g⟩ (.pointer (some ⟨b, o + f.offset, none⟩)) :=
  q_run fun ρ hρ w _ => by simp [execOp, hρ _ _ hx, Instr.fieldAt, hu, hf, Instr.sureAddr, fieldPlace, hs, addr_add]

theorem q_nil {a : Addr} (hx : fm.ev x = some (.pointer (some a))) : Quiet P fm mm ⟨d, .nilCheck x, ty, pos, after, g⟩ (.pointer (some a)) :=
  q_run fun ρ hρ w _ => by simp [execOp, hρ _ _ hx]

theorem q_mfunc {fn : Fn} {u : Operand} (hx : fm.ev u = some v) : Quiet P fm mm ⟨d, .makeFunc fn #[u] #[], ty, pos, after, g⟩ (.func fn #[v] #[]) :=
  q_run fun ρ hρ w _ => by simp [execOp, hρ _ _ hx, Instr.makeFunc]

theorem q_nilm {name : String} {t : TypeId} {u : Value} (hx : fm.ev x = some (.func (.method name) #[.iface t u] #[]))
    (hn : ∀ w, (nilAhead (P.types.size + Made.depth) t u name).run P w = .ok (some false) w) : Quiet P fm mm ⟨d, .nilCheck x, ty, pos, after, g⟩ (.func (.method name) #[.iface t u] #[]) :=
  q_run fun ρ hρ w _ => by simp [execOp, hρ _ _ hx, hn]

theorem q_not {b : Bool} (hx : fm.ev x = some (.bool b)) : Quiet P fm mm ⟨d, .unOp .not ty x, ty, pos, after, g⟩ (.bool (!b)) :=
  q_run fun ρ hρ w _ => by simp [execOp, hρ _ _ hx, Op.unary]
theorem q_not' {b : Bool} {t : TypeId} (hx : fm.ev x = some (.bool b)) : Quiet P fm mm ⟨d, .unOp .not t x, ty, pos, after, g⟩ (.bool (!b)) :=
  q_run fun ρ hρ w _ => by simp [execOp, hρ _ _ hx, Op.unary]

/-! ## Numbers -/

theorem eqGuard_int (w : World) (op : BinOp) (t : TypeId) (x y : Operand) (k k' : IntKind) (a b : Int) : (eqGuard op t x y (.int k a) (.int k' b)).run P w = .ok () w := by
  cases op <;> simp [eqGuard]

theorem q_bin {op : BinOp} {t t2 : TypeId} (hx : fm.ev x = some vx) (hy : fm.ev y = some vy) (hg : ∀ w, (eqGuard op t x y vx vy).run P w = .ok () w)
    (hr : ∀ w, Has mm w → (binOp op t vx vy).run P w = .ok v w) : Quiet P fm mm ⟨d, .binOp op t x y t2, ty, pos, after, g⟩ v :=
  q_run fun ρ hρ w hw => by simp [execOp, hρ _ _ hx, hρ _ _ hy, hg, hr w hw]

section
variable {t t2 : TypeId} {k : IntKind} {a b r : Int}
theorem q_add (hx : fm.ev x = some (.int k a)) (hy : fm.ev y = some (.int k b)) (hr : k.wrap (a + b) = r) : Quiet P fm mm ⟨d, .binOp .add t x y t2, ty, pos, after, g⟩ (.int k r) :=
  q_bin hx hy (fun w => eqGuard_int w _ _ _ _ _ _ _ _) fun w _ => by simp [binOp, Op.intArith, hr]
theorem q_sub (hx : fm.ev x = some (.int k a)) (hy : fm.ev y = some (.int k b)) (hr : k.wrap (a - b) = r) : Quiet P fm mm ⟨d, .binOp .sub t x y t2, ty, pos, after, g⟩ (.int k r) :=
  q_bin hx hy (fun w => eqGuard_int w _ _ _ _ _ _ _ _) fun w _ => by simp [binOp, Op.intArith, hr]
theorem q_mul (hx : fm.ev x = some (.int k a)) (hy : fm.ev y = some (.int k b)) (hr : k.wrap (a * b) = r) : Quiet P fm mm ⟨d, .binOp .mul t x y t2, ty, pos, after, g⟩ (.int k r) :=
  q_bin hx hy (fun w => eqGuard_int w _ _ _ _ _ _ _ _) fun w _ => by simp [binOp, Op.intArith, hr]
theorem q_quo (hx : fm.ev x = some (.int k a)) (hy : fm.ev y = some (.int k b)) (hb : b ≠ 0) (hr : k.wrap (a.tdiv b) = r) : Quiet P fm mm ⟨d, .binOp .quo t x y t2, ty, pos, after, g⟩ (.int k r) :=
  q_bin hx hy (fun w => eqGuard_int w _ _ _ _ _ _ _ _) fun w _ => by simp [binOp, Op.intDiv, hb, hr]
theorem q_lss (hx : fm.ev x = some (.int k a)) (hy : fm.ev y = some (.int k b)) : Quiet P fm mm ⟨d, .binOp .lss t x y t2, ty, pos, after, g⟩ (.bool (decide (a < b))) :=
  q_bin hx hy (fun w => eqGuard_int w _ _ _ _ _ _ _ _) fun w _ => by simp [binOp, Op.intCmp]
theorem q_leq (hx : fm.ev x = some (.int k a)) (hy : fm.ev y = some (.int k b)) : Quiet P fm mm ⟨d, .binOp .leq t x y t2, ty, pos, after, g⟩ (.bool (decide (a ≤ b))) :=
  q_bin hx hy (fun w => eqGuard_int w _ _ _ _ _ _ _ _) fun w _ => by simp [binOp, Op.intCmp]
theorem q_gtr (hx : fm.ev x = some (.int k a)) (hy : fm.ev y = some (.int k b)) : Quiet P fm mm ⟨d, .binOp .gtr t x y t2, ty, pos, after, g⟩ (.bool (decide (b < a))) :=
  q_bin hx hy (fun w => eqGuard_int w _ _ _ _ _ _ _ _) fun w _ => by simp [binOp, Op.intCmp]
theorem q_geq (hx : fm.ev x = some (.int k a)) (hy : fm.ev y = some (.int k b)) : Quiet P fm mm ⟨d, .binOp .geq t x y t2, ty, pos, after, g⟩ (.bool (decide (b ≤ a))) :=
  q_bin hx hy (fun w => eqGuard_int w _ _ _ _ _ _ _ _) fun w _ => by simp [binOp, Op.intCmp]
theorem q_eql (hx : fm.ev x = some (.int k a)) (hy : fm.ev y = some (.int k b)) : Quiet P fm mm ⟨d, .binOp .eql t x y t2, ty, pos, after, g⟩ (.bool (decide (a = b))) :=
  q_bin hx hy (fun w => eqGuard_int w _ _ _ _ _ _ _ _) fun w _ => by simp [binOp, Op.intCmp]; rfl
theorem q_neq (hx : fm.ev x = some (.int k a)) (hy : fm.ev y = some (.int k b)) : Quiet P fm mm ⟨d, .binOp .neq t x y t2, ty, pos, after, g⟩ (.bool (decide (a ≠ b))) :=
  q_bin hx hy (fun w => eqGuard_int w _ _ _ _ _ _ _ _) fun w _ => by simp [binOp, Op.intCmp, bne]; rfl
theorem q_shl {k2 : IntKind} (hx : fm.ev x = some (.int k a)) (hy : fm.ev y = some (.int k2 b)) (hb : 0 ≤ b) (hr : k.wrap (a * 2 ^ (min b.toNat k.bits)) = r) : Quiet P fm mm ⟨d, .binOp .shl t x y t2, ty, pos, after, g⟩ (.int k r) :=
  q_bin hx hy (fun w => eqGuard_int w _ _ _ _ _ _ _ _) fun w _ => by simp [binOp, Op.shift, Int.not_lt.2 hb, hr]
theorem q_shr {k2 : IntKind} (hx : fm.ev x = some (.int k a)) (hy : fm.ev y = some (.int k2 b)) (hb : 0 ≤ b) (hr : a.fdiv (2 ^ (min b.toNat k.bits)) = r) : Quiet P fm mm ⟨d, .binOp .shr t x y t2, ty, pos, after, g⟩ (.int k r) :=
  q_bin hx hy (fun w => eqGuard_int w _ _ _ _ _ _ _ _) fun w _ => by simp [binOp, Op.shift, Int.not_lt.2 hb, hr]
theorem q_or (hx : fm.ev x = some (.int k a)) (hy : fm.ev y = some (.int k b)) (hr : k.wrap ((BitVec.ofInt k.bits a ||| BitVec.ofInt k.bits b).toNat : Int) = r) : Quiet P fm mm ⟨d, .binOp .or t x y t2, ty, pos, after, g⟩ (.int k r) :=
  q_bin hx hy (fun w => eqGuard_int w _ _ _ _ _ _ _ _) fun w _ => by rw [← hr]; simp [binOp, Op.intBits]
theorem q_and (hx : fm.ev x = some (.int k a)) (hy : fm.ev y = some (.int k b)) (hr : k.wrap ((BitVec.ofInt k.bits a &&& BitVec.ofInt k.bits b).toNat : Int) = r) : Quiet P fm mm ⟨d, .binOp .and t x y t2, ty, pos, after, g⟩ (.int k r) :=
  q_bin hx hy (fun w => eqGuard_int w _ _ _ _ _ _ _ _) fun w _ => by rw [← hr]; simp [binOp, Op.intBits]

theorem q_conv {s s' : TypeId} {k' : IntKind} {ds : TypeDesc} (hx : fm.ev x = some (.int k a)) (hu : ∀ w, (underlying s).run P w = .ok ds w) (hu' : ∀ w, (underlying s').run P w = .ok (.int k') w) (hr : k'.wrap a = r) :
    Quiet P fm mm ⟨d, .convert s s' x, ty, pos, after, g⟩ (.int k' r) :=
  q_run fun ρ hρ w _ => by simp [execOp, hρ _ _ hx, convert, hu, hu', Conv.intToInt, hr]
end

/-! ## Slices and strings -/

theorem q_len {t : TypeId} {e : TypeId} {ad : Option Addr} {n c : Nat} (hx : fm.ev x = some (.slice ad n c)) (hu : ∀ w, (underlying t).run P w = .ok (.slice e) w) :
    Quiet P fm mm ⟨d, .call { callee := .builtin .len, args := #[x], argTypes := #[t] }, ty, pos, after, g⟩ (.int .i64 n) :=
  q_run fun ρ hρ w _ => by simp [execOp, resolve, invoke, builtin, hρ _ _ hx, Builtin.len_, hu, goInt]
theorem q_lens {t : TypeId} {s : ByteArray} (hx : fm.ev x = some (.string s)) (hu : ∀ w, (underlying t).run P w = .ok .string w) :
    Quiet P fm mm ⟨d, .call { callee := .builtin .len, args := #[x], argTypes := #[t] }, ty, pos, after, g⟩ (.int .i64 s.size) :=
  q_run fun ρ hρ w _ => by simp [execOp, resolve, invoke, builtin, hρ _ _ hx, Builtin.len_, hu, goInt]

theorem q_min {ts : Array TypeId} {k k' : IntKind} {a b : Int} (hx : fm.ev x = some (.int k a)) (hy : fm.ev y = some (.int k' b)) :
    Quiet P fm mm ⟨d, .call { callee := .builtin .min, args := #[x, y], argTypes := ts }, ty, pos, after, g⟩ (.int k (if b < a then b else a)) :=
  q_run fun ρ hρ w _ => by simp [execOp, resolve, invoke, builtin, hρ _ _ hx, hρ _ _ hy, Builtin.min_, Builtin.min2]

/-- An element's address in a slice. -/
theorem q_index {t e : TypeId} {k : IntKind} {i : Int} {b o n c s j : Nat} (hx : fm.ev x = some (.slice (some ⟨b, o, none⟩) n c)) (hy : fm.ev y = some (.int k i)) (hu : ∀ w, (underlying t).run P w = .ok (.slice e) w)
    (hs : ∀ w, (sizeOf e).run P w = .ok s w) (hi : 0 ≤ i ∧ i < n) (hj : o + i.toNat * s = j) : Quiet P fm mm ⟨d, .indexAddr t x y, ty, pos, after, g⟩ (.pointer (some ⟨b, j, none⟩)) :=
  q_run fun ρ hρ w _ => by simp [execOp, hρ _ _ hx, hρ _ _ hy, Instr.indexAt, asIntOf, hu, hs, hi, addr_add, hj]
/-- An element's address in an array. -/
theorem q_indexa {t e : TypeId} {k : IntKind} {i : Int} {b o n s j : Nat} (hx : fm.ev x = some (.pointer (some ⟨b, o, none⟩))) (hy : fm.ev y = some (.int k i)) (hu : ∀ w, (underlying t).run P w = .ok (.array n e) w)
    (hs : ∀ w, (sizeOf e).run P w = .ok s w) (hi : 0 ≤ i ∧ i < n) (hj : o + i.toNat * s = j) : Quiet P fm mm ⟨d, .indexAddr t x y, ty, pos, after, g⟩ (.pointer (some ⟨b, j, none⟩)) :=
  q_run fun ρ hρ w _ => by simp [execOp, hρ _ _ hx, hρ _ _ hy, Instr.indexAt, asIntOf, hu, hs, hi, addr_add, hj, Instr.sureAddr]

end Go.Sx
/- The operations one by one, continued: slices, loads, strings, comparisons with nil, structs, calls that leave memory alone. No condition. -/
namespace Go.Sx
variable {P : Program} {fm : FM} {mm : MM} {d : Option Nat} {ty : TypeId} {pos : String} {after : Array Edge} {g : Option (Nat × Bool)} {v vx vy : Value} {x y : Operand}

/-! ## Slices -/

/-- x[l:] of a slice; l is less than the capacity. -/
theorem q_slice_l {t e : TypeId} {k : IntKind} {l : Int} {b o n c s j n' c' : Nat} {lo : Operand} (hx : fm.ev x = some (.slice (some ⟨b, o, none⟩) n c)) (hl : fm.ev lo = some (.int k l))
    (hu : ∀ w, (underlying t).run P w = .ok (.slice e) w) (hs : ∀ w, (sizeOf e).run P w = .ok s w) (h0 : 0 ≤ l) (h1 : l ≤ n) (hc : l < c) (hj : o + l.toNat * s = j) (hn : n - l.toNat = n') (hc' : c - l.toNat = c') :
    Quiet P fm mm ⟨d, .slice t x (some lo) none none, ty, pos, after, g⟩ (.slice (some ⟨b, j, none⟩) n' c') :=
  q_run fun ρ hρ w _ => by
    have hne : ¬ c = l.toNat := by omega
    simp [execOp, hρ _ _ hx, hρ _ _ hl, Instr.sliceAt, hu, Instr.slice, Instr.sliceBounds, Instr.sliceBound, asIntOf, h0, h1, hs, addr_add, hj, hn, hc', hne]
/-- x[l:h] of a slice; l is less than the capacity. -/
theorem q_slice_lh {t e : TypeId} {k k' : IntKind} {l h : Int} {b o n c s j n' c' : Nat} {lo hi : Operand} (hx : fm.ev x = some (.slice (some ⟨b, o, none⟩) n c)) (hl : fm.ev lo = some (.int k l)) (hh : fm.ev hi = some (.int k' h))
    (hu : ∀ w, (underlying t).run P w = .ok (.slice e) w) (hs : ∀ w, (sizeOf e).run P w = .ok s w) (h0 : 0 ≤ l) (h1 : l ≤ h) (h2 : h ≤ c) (hc : l < c) (hj : o + l.toNat * s = j) (hn : h.toNat - l.toNat = n') (hc' : c - l.toNat = c') :
    Quiet P fm mm ⟨d, .slice t x (some lo) (some hi) none, ty, pos, after, g⟩ (.slice (some ⟨b, j, none⟩) n' c') :=
  q_run fun ρ hρ w _ => by
    obtain ⟨l, rfl⟩ := Int.eq_ofNat_of_zero_le h0
    obtain ⟨h, rfl⟩ := Int.eq_ofNat_of_zero_le (show 0 ≤ h by omega)
    have hne : ¬ c = l := by omega
    have h1' : l ≤ h := by omega
    have h2' : h ≤ c := by omega
    simp only [Int.toNat_natCast] at hj hn hc'
    simp [execOp, hρ _ _ hx, hρ _ _ hl, hρ _ _ hh, Instr.sliceAt, hu, Instr.slice, Instr.sliceBounds, Instr.sliceBound, asIntOf, h1', h2', hs, addr_add, hj, hn, hc', hne]
/-- x[l:h] of a slice where l may be the capacity. -/
theorem q_slice_lh' {t e : TypeId} {k k' : IntKind} {l h : Int} {b o n c s n' c' : Nat} {lo hi : Operand} (hx : fm.ev x = some (.slice (some ⟨b, o, none⟩) n c)) (hl : fm.ev lo = some (.int k l)) (hh : fm.ev hi = some (.int k' h))
    (hu : ∀ w, (underlying t).run P w = .ok (.slice e) w) (hs : ∀ w, (sizeOf e).run P w = .ok s w) (h0 : 0 ≤ l) (h1 : l ≤ h) (h2 : h ≤ c) (hn : h.toNat - l.toNat = n') (hc' : c - l.toNat = c') :
    Quiet P fm mm ⟨d, .slice t x (some lo) (some hi) none, ty, pos, after, g⟩ (.slice (some (if c = l.toNat then ⟨b, o, none⟩ else ⟨b, o + l.toNat * s, none⟩)) n' c') :=
  q_run fun ρ hρ w _ => by
    obtain ⟨l, rfl⟩ := Int.eq_ofNat_of_zero_le h0
    obtain ⟨h, rfl⟩ := Int.eq_ofNat_of_zero_le (show 0 ≤ h by omega)
    have h1' : l ≤ h := by omega
    have h2' : h ≤ c := by omega
    simp only [Int.toNat_natCast] at hn hc' ⊢
    have hif : (if c = l then some (⟨b, o, none⟩ : Addr) else some ⟨b, o + l * s, none⟩) = some (if c = l then ⟨b, o, none⟩ else ⟨b, o + l * s, none⟩) := by split <;> rfl
    simp [execOp, hρ _ _ hx, hρ _ _ hl, hρ _ _ hh, Instr.sliceAt, hu, Instr.slice, Instr.sliceBounds, Instr.sliceBound, asIntOf, h1', h2', hs, addr_add, hn, hc', hif]
/-- x[:h] of a slice. -/
theorem q_slice_h {t e : TypeId} {k' : IntKind} {h : Int} {ad : Option Addr} {n c s n' : Nat} {hi : Operand} (hx : fm.ev x = some (.slice ad n c)) (hh : fm.ev hi = some (.int k' h))
    (hu : ∀ w, (underlying t).run P w = .ok (.slice e) w) (hs : ∀ w, (sizeOf e).run P w = .ok s w) (h1 : 0 ≤ h) (h2 : h ≤ c) (hn : h.toNat = n') :
    Quiet P fm mm ⟨d, .slice t x none (some hi) none, ty, pos, after, g⟩ (.slice ad n' c) :=
  q_run fun ρ hρ w _ => by
    have hm : (ad.map (·.add (0 * s))) = ad := by
      cases ad with
      | none => rfl
      | some a => simp [Addr.add]
    have hm' : (ad.map (·.add 0)) = ad := by simpa using hm
    obtain ⟨h, rfl⟩ := Int.eq_ofNat_of_zero_le h1
    simp only [Int.toNat_natCast] at hn
    subst hn
    have h2' : h ≤ c := by omega
    simp [execOp, hρ _ _ hx, hρ _ _ hh, Instr.sliceAt, hu, Instr.slice, Instr.sliceBounds, Instr.sliceBound, asIntOf, h2', hs, hm']
/-- x[l:] of an array behind a pointer. -/
theorem q_slicea_l {t e : TypeId} {k : IntKind} {l : Int} {b o n s j n' : Nat} {lo : Operand} (hx : fm.ev x = some (.pointer (some ⟨b, o, none⟩))) (hl : fm.ev lo = some (.int k l))
    (hu : ∀ w, (underlying t).run P w = .ok (.array n e) w) (hs : ∀ w, (sizeOf e).run P w = .ok s w) (h0 : 0 ≤ l) (h1 : l < n) (hj : o + l.toNat * s = j) (hn : n - l.toNat = n') :
    Quiet P fm mm ⟨d, .slice t x (some lo) none none, ty, pos, after, g⟩ (.slice (some ⟨b, j, none⟩) n' n') :=
  q_run fun ρ hρ w _ => by
    have hne : ¬ n = l.toNat := by omega
    have h1' : l ≤ n := by omega
    simp [execOp, hρ _ _ hx, hρ _ _ hl, Instr.sliceAt, hu, Instr.sureAddr, Instr.sliceBounds, Instr.sliceBound, asIntOf, h0, h1', hs, addr_add, hj, hn, hne]
/-- x[l:h] of an array behind a pointer. -/
theorem q_slicea_lh {t e : TypeId} {k k' : IntKind} {l h : Int} {b o n s j n' c' : Nat} {lo hi : Operand} (hx : fm.ev x = some (.pointer (some ⟨b, o, none⟩))) (hl : fm.ev lo = some (.int k l)) (hh : fm.ev hi = some (.int k' h))
    (hu : ∀ w, (underlying t).run P w = .ok (.array n e) w) (hs : ∀ w, (sizeOf e).run P w = .ok s w) (h0 : 0 ≤ l) (h1 : l ≤ h) (h2 : h ≤ n) (hc : l < n) (hj : o + l.toNat * s = j) (hn : h.toNat - l.toNat = n') (hc' : n - l.toNat = c') :
    Quiet P fm mm ⟨d, .slice t x (some lo) (some hi) none, ty, pos, after, g⟩ (.slice (some ⟨b, j, none⟩) n' c') :=
  q_run fun ρ hρ w _ => by
    obtain ⟨l, rfl⟩ := Int.eq_ofNat_of_zero_le h0
    obtain ⟨h, rfl⟩ := Int.eq_ofNat_of_zero_le (show 0 ≤ h by omega)
    have hne : ¬ n = l := by omega
    have h1' : l ≤ h := by omega
    have h2' : h ≤ n := by omega
    simp only [Int.toNat_natCast] at hj hn hc'
    simp [execOp, hρ _ _ hx, hρ _ _ hl, hρ _ _ hh, Instr.sliceAt, hu, Instr.sureAddr, Instr.sliceBounds, Instr.sliceBound, asIntOf, h1', h2', hs, addr_add, hj, hn, hc', hne]

/-- s[:h] of a string. -/
theorem q_str_h {t : TypeId} {k' : IntKind} {h : Int} {s : ByteArray} {hi : Operand} (hx : fm.ev x = some (.string s)) (hh : fm.ev hi = some (.int k' h))
    (hu : ∀ w, (underlying t).run P w = .ok .string w) (h1 : 0 ≤ h) (h2 : h ≤ s.size) :
    Quiet P fm mm ⟨d, .slice t x none (some hi) none, ty, pos, after, g⟩ (.string (s.extract 0 h.toNat)) :=
  q_run fun ρ hρ w _ => by
    simp [execOp, hρ _ _ hx, hρ _ _ hh, Instr.sliceAt, hu, Instr.slice, Instr.sliceBounds, Instr.sliceBound, asIntOf, h1, h2]

theorem q_strcmp {t t2 : TypeId} {s s' : ByteArray} (hx : fm.ev x = some (.string s)) (hy : fm.ev y = some (.string s')) :
    Quiet P fm mm ⟨d, .binOp .eql t x y t2, ty, pos, after, g⟩ (.bool (s.toList == s'.toList)) :=
  q_bin hx hy (fun w => by simp [eqGuard]) fun w _ => by rw [binOp_string_eql]; rfl
theorem q_strneq {t t2 : TypeId} {s s' : ByteArray} (hx : fm.ev x = some (.string s)) (hy : fm.ev y = some (.string s')) :
    Quiet P fm mm ⟨d, .binOp .neq t x y t2, ty, pos, after, g⟩ (.bool (!(s.toList == s'.toList))) :=
  q_bin hx hy (fun w => by simp [eqGuard]) fun w _ => by rw [binOp_string_neq]; rfl

/-! ## Loads -/

theorem cell_at {w : World} {b o : Nat} {cs : Array Value} {t : TypeId} {fr : Nat × Nat} (h : w.heap[b]? = some (.cells cs t fr)) : w.cell? ⟨b, o, none⟩ = cs[o]? := by
  simp [World.cell?, h]

/-- A load of one cell out of the i-th block that is known. -/
theorem q_load {t e : TypeId} {b o i : Nat} {cs : Array Value} {fr : Nat × Nat} (hx : fm.ev x = some (.pointer (some ⟨b, o, none⟩))) (ha : ∀ w, (isAgg t).run P w = .ok false w)
    (hm : mm[i]? = some (b, .cells cs e fr)) (hc : cs[o]? = some v) : Quiet P fm mm ⟨d, .load t x, ty, pos, after, g⟩ v :=
  q_run fun ρ hρ w hw => by simp [execOp, hρ _ _ hx, Instr.loadAt, Instr.sureAddr, loadVar, ha, cell_at (hw.get hm), hc]

theorem run_loadCells_blk {w : World} {b o n : Nat} {cs : Array Value} {e : TypeId} {fr : Nat × Nat} (h : w.heap[b]? = some (.cells cs e fr)) (hn : o + n ≤ cs.size) :
    (loadCells ⟨b, o, none⟩ n).run P w = .ok (cs.extract o (o + n)) w := by
  have := run_loadCells_list (P := P) (w := w) ⟨b, o, none⟩ (cs.extract o (o + n)).toList fun j u hj => by
    rw [addr_add, cell_at h]
    simp only [Array.toList_extract, List.extract_eq_take_drop] at hj
    rw [List.getElem?_take] at hj
    split at hj
    · simpa using hj
    · cases hj
  have hl : (cs.extract o (o + n)).toList.length = n := by simp; omega
  rw [hl] at this
  rw [this]

/-- A load of a struct or an array. -/
theorem q_loads {t e : TypeId} {b o i n : Nat} {cs : Array Value} {fr : Nat × Nat} {vs : Array Value} (hx : fm.ev x = some (.pointer (some ⟨b, o, none⟩))) (ha : ∀ w, (isAgg t).run P w = .ok true w) (hs : ∀ w, (sizeOf t).run P w = .ok n w)
    (hm : mm[i]? = some (b, .cells cs e fr)) (hn : o + n ≤ cs.size) (hc : cs.extract o (o + n) = vs) : Quiet P fm mm ⟨d, .load t x, ty, pos, after, g⟩ (.agg vs) :=
  q_run fun ρ hρ w hw => by simp [execOp, hρ _ _ hx, Instr.loadAt, Instr.sureAddr, loadVar, ha, hs, run_loadCells_blk (hw.get hm) hn, hc]

/-! ## nil -/

section
variable {t t2 tp te : TypeId} {ms : Array (String × TypeId)} {u : Value} {i : TypeInfo} {s : Nat} {a : Addr}
theorem eqIn_held_nil (w : World) (n : Nat) (hu : ∀ w, (underlying t).run P w = .ok (.interface ms) w) : (Op.equalIn (n + 1) t (.iface tp u) .nilIface).run P w = .ok false w := by simp [Op.equalIn, hu]
theorem eqIn_nil_nil (w : World) (n : Nat) (hu : ∀ w, (underlying t).run P w = .ok (.interface ms) w) : (Op.equalIn (n + 1) t .nilIface .nilIface).run P w = .ok true w := by simp [Op.equalIn, hu]
theorem eqIn_ptr_same (w : World) (n : Nat) (hu : ∀ w, (underlying t).run P w = .ok (.interface ms) w) (hp : ∀ w, (underlying tp).run P w = .ok (.pointer te) w) (hs : ∀ w, (sizeOf te).run P w = .ok (s + 1) w) (hi : ∀ w, (typeInfo tp).run P w = .ok i w) (hc : i.comparable = true) :
    (Op.equalIn (n + 2) t (.iface tp (.pointer (some a))) (.iface tp (.pointer (some a)))).run P w = .ok true w := by simp [Op.equalIn, hu, hi, hc, hp, hs, run_sameAddr_same]
theorem eqG_nil (w : World) (op : BinOp) (x y : Operand) : (eqGuard op t x y (.iface tp u) .nilIface).run P w = .ok () w := by cases op <;> simp [eqGuard]
theorem eqG_lit (w : World) (op : BinOp) (x : Operand) : (eqGuard op t x (.const .nilIface) .nilIface .nilIface).run P w = .ok () w := by cases op <;> simp [eqGuard]
theorem eqG_two (w : World) (op : BinOp) (x y : Operand) {tq : TypeId} {u' : Value} : (eqGuard op t x y (.iface tp u) (.iface tq u')).run P w = .ok () w := by cases op <;> simp [eqGuard]

theorem q_iface_neq_nil (hx : fm.ev x = some (.iface tp u)) (hy : fm.ev y = some .nilIface) (hu : ∀ w, (underlying t).run P w = .ok (.interface ms) w) :
    Quiet P fm mm ⟨d, .binOp .neq t x y t2, ty, pos, after, g⟩ (.bool true) :=
  q_bin hx hy (fun w => eqG_nil w _ _ _) fun w _ => by
    have := eqIn_held_nil (tp := tp) (u := u) w 9999 hu
    simp only [binOp]; simp [Op.equal, Op.maxDepth, this]
theorem q_nil_neq_nil (hx : fm.ev x = some .nilIface) (hu : ∀ w, (underlying t).run P w = .ok (.interface ms) w) :
    Quiet P fm mm ⟨d, .binOp .neq t x (.const .nilIface) t2, ty, pos, after, g⟩ (.bool false) :=
  q_bin hx rfl (fun w => eqG_lit w _ _) fun w _ => by
    have := eqIn_nil_nil w 9999 hu
    simp only [binOp]; simp [Op.equal, Op.maxDepth, this]
theorem q_iface_eql_nil (hx : fm.ev x = some (.iface tp u)) (hy : fm.ev y = some .nilIface) (hu : ∀ w, (underlying t).run P w = .ok (.interface ms) w) :
    Quiet P fm mm ⟨d, .binOp .eql t x y t2, ty, pos, after, g⟩ (.bool false) :=
  q_bin hx hy (fun w => eqG_nil w _ _ _) fun w _ => by
    have := eqIn_held_nil (tp := tp) (u := u) w 9999 hu
    simp only [binOp]; simp [Op.equal, Op.maxDepth, this]
theorem q_nil_eql_nil (hx : fm.ev x = some .nilIface) (hu : ∀ w, (underlying t).run P w = .ok (.interface ms) w) :
    Quiet P fm mm ⟨d, .binOp .eql t x (.const .nilIface) t2, ty, pos, after, g⟩ (.bool true) :=
  q_bin hx rfl (fun w => eqG_lit w _ _) fun w _ => by
    have := eqIn_nil_nil w 9999 hu
    simp only [binOp]; simp [Op.equal, Op.maxDepth, this]

/-- Two interface values that are one pointer. -/
theorem q_iface_eql_same (hx : fm.ev x = some (.iface tp (.pointer (some a)))) (hy : fm.ev y = some (.iface tp (.pointer (some a))))
    (hu : ∀ w, (underlying t).run P w = .ok (.interface ms) w) (hp : ∀ w, (underlying tp).run P w = .ok (.pointer te) w) (hs : ∀ w, (sizeOf te).run P w = .ok (s + 1) w) (hi : ∀ w, (typeInfo tp).run P w = .ok i w) (hc : i.comparable = true) :
    Quiet P fm mm ⟨d, .binOp .eql t x y t2, ty, pos, after, g⟩ (.bool true) :=
  q_bin hx hy (fun w => eqG_two w _ _ _) fun w _ => by
    have := eqIn_ptr_same (a := a) w 9998 hu hp hs hi hc
    simp only [binOp]; simp [Op.equal, Op.maxDepth, this]
theorem q_iface_neq_same (hx : fm.ev x = some (.iface tp (.pointer (some a)))) (hy : fm.ev y = some (.iface tp (.pointer (some a))))
    (hu : ∀ w, (underlying t).run P w = .ok (.interface ms) w) (hp : ∀ w, (underlying tp).run P w = .ok (.pointer te) w) (hs : ∀ w, (sizeOf te).run P w = .ok (s + 1) w) (hi : ∀ w, (typeInfo tp).run P w = .ok i w) (hc : i.comparable = true) :
    Quiet P fm mm ⟨d, .binOp .neq t x y t2, ty, pos, after, g⟩ (.bool false) :=
  q_bin hx hy (fun w => eqG_two w _ _ _) fun w _ => by
    have := eqIn_ptr_same (a := a) w 9998 hu hp hs hi hc
    simp only [binOp]; simp [Op.equal, Op.maxDepth, this]
end

/-! ## Calls that leave memory alone -/

/-- A call of a named function. -/
theorem q_call {f : FuncId} {xs : Array Operand} {ts : Array TypeId} {vs : Array Value} (hargs : ∀ ρ, Agr fm ρ → xs.map ρ = vs) (hc : ∀ args w, (callFunc f args).run P w = .ok (.enter f args) w)
    (h : ∀ w, Has mm w → Calls P f vs w fun e w' => e = .returned v ∧ Same w w') : Quiet P fm mm ⟨d, .call { callee := .value (.func f), args := xs, argTypes := ts }, ty, pos, after, g⟩ v := fun ρ hρ w hw => by
  have h0 : ρ (.func f) = .func (.func f) #[] #[] := hρ _ _ rfl
  have hr : (execOp ρ ⟨d, .call { callee := .value (.func f), args := xs, argTypes := ts }, ty, pos, after, g⟩).run P w = .ok (.enter f vs) w := by
    simp [execOp, resolve, h0, Deferred.ofValue, invoke, hargs ρ hρ, hc]
  rw [hr]
  exact (h w hw).mono fun e w' ⟨he, hs⟩ => ⟨v, he, rfl, hs⟩

theorem args1 {a : Operand} {va : Value} (ha : fm.ev a = some va) : ∀ ρ, Agr fm ρ → #[a].map ρ = #[va] := fun ρ hρ => by simp [hρ _ _ ha]
theorem args2 {a b : Operand} {va vb : Value} (ha : fm.ev a = some va) (hb : fm.ev b = some vb) : ∀ ρ, Agr fm ρ → #[a, b].map ρ = #[va, vb] := fun ρ hρ => by simp [hρ _ _ ha, hρ _ _ hb]
theorem args3 {a b c : Operand} {va vb vc : Value} (ha : fm.ev a = some va) (hb : fm.ev b = some vb) (hc : fm.ev c = some vc) : ∀ ρ, Agr fm ρ → #[a, b, c].map ρ = #[va, vb, vc] := fun ρ hρ => by simp [hρ _ _ ha, hρ _ _ hb, hρ _ _ hc]
theorem args0 : ∀ ρ, Agr fm ρ → (#[] : Array Operand).map ρ = #[] := fun _ _ => by simp

/-! ## Structs -/

/-- A list of fields' values. -/
def Evs (fm : FM) : List (Nat × Operand) → List (Nat × Value) → Prop
  | [], [] => True
  | (i, x) :: r, (j, v) :: s => i = j ∧ fm.ev x = some v ∧ Evs fm r s
  | _, _ => False

theorem Evs.map {ps : List (Nat × Operand)} {vs : List (Nat × Value)} (h : Evs fm ps vs) {ρ : Operand → Value} (hρ : Agr fm ρ) : ps.map (fun (i, x) => (i, ρ x)) = vs := by
  induction ps generalizing vs with
  | nil => cases vs with
    | nil => rfl
    | cons => exact h.elim
  | cons p r ih => cases vs with
    | nil => exact h.elim
    | cons q s =>
      obtain ⟨h1, h2, h3⟩ := h
      simp only [List.map_cons, ih h3, h1, hρ _ _ h2]

/-- A struct that is put together: its cells told by a run. -/
theorem q_build {t : TypeId} {ps : List (Nat × Operand)} {vs : List (Nat × Value)} {cs : Array Value} (he : Evs fm ps vs) (hb : ∀ w, (Instr.build t vs.toArray).run P w = .ok (.agg cs) w) :
    Quiet P fm mm ⟨d, .build t ps.toArray, ty, pos, after, g⟩ (.agg cs) :=
  q_run fun ρ hρ w _ => by
    have := he.map hρ
    simp only [execOp, List.map_toArray, this]
    simp [hb]
end Go.Sx
/- The operations that turn memory, and the ends of bodies, over frames and memory that are lists of facts. No condition. -/
namespace Go.Sx
variable {P : Program} {w0 : World} {E : Nat → Prop} {fm : FM} {N : Nat} {mm : MM} {d : Option Nat} {ty : TypeId} {pos : String} {after : Array Edge} {g : Option (Nat × Bool)} {v vx vy : Value} {x y : Operand}

/-! ## Lists that come out written -/

def setK {α β : Type} : List α → Nat → α → (List α → Option β) → Option β
  | [], _, _, _ => none
  | _ :: r, 0, v, k => k (v :: r)
  | a :: r, n + 1, v, k => setK r n v fun t => k (a :: t)
theorem setK_eq {α β : Type} {k : List α → Option β} {z : β} : ∀ {l : List α} {n : Nat} {v : α}, setK l n v k = some z → n < l.length ∧ k (l.set n v) = some z := by
  intro l
  induction l generalizing k with
  | nil => intro n v h; simp [setK] at h
  | cons a r ih =>
    intro n v h
    cases n with
    | zero => exact ⟨by simp, by simpa [setK] using h⟩
    | succ n =>
      obtain ⟨h1, h2⟩ := ih (k := fun t => k (a :: t)) (by simpa [setK] using h)
      exact ⟨by simp; omega, by simpa using h2⟩

def spliceK {α β : Type} : List α → Nat → List α → (List α → Option β) → Option β
  | l, _, [], k => k l
  | l, o, v :: vs, k => setK l o v fun t => spliceK t (o + 1) vs k

def rangeK {α β : Type} : List α → Nat → Nat → (List α → Option β) → Option β
  | _, 0, 0, k => k []
  | a :: r, 0, n + 1, k => rangeK r 0 n fun t => k (a :: t)
  | _ :: r, o + 1, n, k => rangeK r o n k
  | _, _, _, _ => none
theorem rangeK_eq {α β : Type} {z : β} : ∀ {l : List α} {o n : Nat} {k : List α → Option β}, rangeK l o n k = some z → o + n ≤ l.length ∧ k ((l.drop o).take n) = some z := by
  intro l
  induction l with
  | nil =>
    intro o n k h
    cases o <;> cases n <;> simp [rangeK] at h ⊢
    exact h
  | cons a r ih =>
    intro o n k h
    cases o with
    | zero =>
      cases n with
      | zero => simpa [rangeK] using h
      | succ n =>
        obtain ⟨h1, h2⟩ := ih (o := 0) (n := n) (k := fun t => k (a :: t)) (by simpa [rangeK] using h)
        exact ⟨by simp at h1 ⊢; omega, by simpa using h2⟩
    | succ o =>
      obtain ⟨h1, h2⟩ := ih (o := o) (n := n) (k := k) (by simpa [rangeK] using h)
      exact ⟨by simp; omega, by simpa using h2⟩

def eraseK {α β : Type} : List α → Nat → (List α → Option β) → Option β
  | [], _, _ => none
  | _ :: r, 0, k => k r
  | a :: r, n + 1, k => eraseK r n fun t => k (a :: t)
theorem eraseK_eq {α β : Type} {z : β} : ∀ {l : List α} {n : Nat} {k : List α → Option β}, eraseK l n k = some z → k (l.eraseIdx n) = some z := by
  intro l
  induction l with
  | nil => intro n k h; simp [eraseK] at h
  | cons a r ih =>
    intro n k h
    cases n with
    | zero => simpa [eraseK] using h
    | succ n => simpa using ih (k := fun t => k (a :: t)) (by simpa [eraseK] using h)

/-! ## New blocks -/

theorem run_newRow (w : World) (e : TypeId) (cs : Array Value) : (newRow e cs).run P w = .ok ⟨w.heap.size, 0, none⟩ (w.alloc (.cells cs e)) := by
  simp [newRow]

theorem main_new {o : Oper} {l : List Value} {e : TypeId} (h : ∀ ρ, Agr fm ρ → ∀ w, Mem w0 E N mm w → (execOp ρ o).run P w = .ok (.value (.pointer (some ⟨w.heap.size, 0, none⟩))) (w.alloc (.cells l.toArray e))) :
    Main P w0 E fm N mm o (fun _ : Unit => .pointer (some ⟨N, 0, none⟩)) (fun _ => N + 1) (fun _ => (N, .cells l.toArray e) :: mm) (fun _ => True) := fun ρ hρ w hw => by
  rw [h ρ hρ w hw, hw.size]
  exact ⟨(), trivial, rfl, hw.alloc _⟩

theorem m_alloc {e : TypeId} {z : Value} {l : List Value} (hz : ∀ w, (zeroValue e).run P w = .ok z w) (hl : z.cells = l.toArray) :
    Main P w0 E fm N mm ⟨d, .alloc e, ty, pos, after, g⟩ (fun _ : Unit => .pointer (some ⟨N, 0, none⟩)) (fun _ => N + 1) (fun _ => (N, .cells l.toArray e) :: mm) (fun _ => True) :=
  main_new fun ρ _ w _ => by simp [execOp, Instr.alloc, hz, newVar, run_newRow, hl]

theorem m_box {e : TypeId} {l : List Value} (hx : fm.ev x = some v) (hl : v.cells = l.toArray) :
    Main P w0 E fm N mm ⟨d, .box e x, ty, pos, after, g⟩ (fun _ : Unit => .pointer (some ⟨N, 0, none⟩)) (fun _ => N + 1) (fun _ => (N, .cells l.toArray e) :: mm) (fun _ => True) :=
  main_new fun ρ hρ w _ => by simp [execOp, hρ _ _ hx, Instr.box, newVar, run_newRow, hl]

/-! ## Stores -/

theorem upd_setRow {w : World} {b : Nat} {cs : Array Value} {e : TypeId} (h : w.heap[b]? = some (.cells cs e (0, 0))) (cs' : Array Value) : Upd w (w.setRow b cs') b (.cells cs' e (0, 0)) :=
  ⟨rfl, rfl, rfl, by simp, setRow_heap w b cs cs' e (0, 0) h, fun k hk => setRow_other w b k _ hk⟩

theorem run_storeVar {w : World} {t e : TypeId} {b o n : Nat} {l : List Value} {vs : List Value} (hs : ∀ w, (sizeOf t).run P w = .ok n w) (hv : v.cells = vs.toArray) (hn : vs.length = n) (h1 : ∀ u ∈ vs, u.oneCell' = true)
    (hb : w.heap[b]? = some (.cells l.toArray e (0, 0))) (hl : o + n ≤ l.length) :
    (storeVar t ⟨b, o, none⟩ v).run P w = .ok () (w.setRow b (l.take o ++ vs ++ l.drop (o + n)).toArray) := by
  have := run_storeCells_at P b o e vs 0 l.toArray w hb (by simp; omega) h1
  subst hn
  simp only [Nat.add_zero] at this
  simp [storeVar, hs, hv, this]

theorem splice_set (v : Value) : ∀ (l : List Value) (o : Nat), o < l.length → l.take o ++ [v] ++ l.drop (o + 1) = l.set o v := by
  intro l
  induction l with
  | nil => intro o h; simp at h
  | cons a r ih =>
    intro o h
    cases o with
    | zero => simp
    | succ o => simpa using ih o (by simpa using h)

/-- A store of one cell. -/
theorem m_store {t e : TypeId} {b o i : Nat} {l l' : List Value} {ms : MM} (hx : fm.ev x = some (.pointer (some ⟨b, o, none⟩))) (hy : fm.ev y = some v) (hs : ∀ w, (sizeOf t).run P w = .ok 1 w) (hv : v.oneCell' = true)
    (hm : mm[i]? = some (b, .cells l.toArray e (0, 0))) (hl : setK l o v some = some l') (hmm : setK mm i (b, .cells l'.toArray e (0, 0)) some = some ms) (hE : b < w0.heap.size → E b) :
    Main P w0 E fm N mm ⟨d, .store t x y, ty, pos, after, g⟩ (fun _ : Unit => undef) (fun _ => N) (fun _ => ms) (fun _ => True) := fun ρ hρ w hw => by
  obtain ⟨hlt, he⟩ := setK_eq hl
  simp only [Option.some.injEq] at he
  obtain ⟨_, hms⟩ := setK_eq hmm
  simp only [Option.some.injEq] at hms
  have hc : v.cells = [v].toArray := by cases v <;> first | rfl | (simp [Value.oneCell'] at hv)
  have hst := run_storeVar (P := P) (t := t) (v := v) (vs := [v]) (n := 1) hs hc rfl (by simpa using hv) (hw.get hm) hlt
  rw [splice_set v l o hlt, he] at hst
  have hr : (execOp ρ ⟨d, .store t x y, ty, pos, after, g⟩).run P w = .ok .skip (w.setRow b l'.toArray) := by
    simp [execOp, hρ _ _ hx, hρ _ _ hy, Instr.storeAt, Instr.sureAddr, hst]
  rw [hr]
  exact ⟨(), trivial, rfl, hms ▸ hw.upd hm (upd_setRow (hw.get hm) _) hE⟩

/-- A store of a struct. -/
theorem m_stores {t e : TypeId} {b o i n : Nat} {l l' vs : List Value} {ms : MM} (hx : fm.ev x = some (.pointer (some ⟨b, o, none⟩))) (hy : fm.ev y = some (.agg vs.toArray)) (hs : ∀ w, (sizeOf t).run P w = .ok n w) (hn : vs.length = n) (hv : vs.all (·.oneCell') = true)
    (hm : mm[i]? = some (b, .cells l.toArray e (0, 0))) (hlen : o + n ≤ l.length) (hl : l.take o ++ vs ++ l.drop (o + n) = l') (hmm : setK mm i (b, .cells l'.toArray e (0, 0)) some = some ms) (hE : b < w0.heap.size → E b) :
    Main P w0 E fm N mm ⟨d, .store t x y, ty, pos, after, g⟩ (fun _ : Unit => undef) (fun _ => N) (fun _ => ms) (fun _ => True) := fun ρ hρ w hw => by
  obtain ⟨_, hms⟩ := setK_eq hmm
  simp only [Option.some.injEq] at hms
  have hst := run_storeVar (P := P) (t := t) (v := .agg vs.toArray) (vs := vs) (n := n) hs rfl hn (by simpa using hv) (hw.get hm) hlen
  rw [hl] at hst
  have hr : (execOp ρ ⟨d, .store t x y, ty, pos, after, g⟩).run P w = .ok .skip (w.setRow b l'.toArray) := by
    simp [execOp, hρ _ _ hx, hρ _ _ hy, Instr.storeAt, Instr.sureAddr, hst]
  rw [hr]
  exact ⟨(), trivial, rfl, hms ▸ hw.upd hm (upd_setRow (hw.get hm) _) hE⟩

/-! ## make, slice literals, append, copy -/

/-- make([]T, n), make([]T, 0, n): one cell an element. -/
theorem m_make {t e : TypeId} {kl kc : IntKind} {len cap : Nat} {i : TypeInfo} {z : Value} (hx : fm.ev x = some (.int kl len)) (hy : fm.ev y = some (.int kc cap)) (ht : P.underlying t = some (.slice e)) (hi : P.info? e = some i) (hz : i.zero = some z) (h1 : i.size = 1) (hzo : z.oneCell' = true)
    (hlc : len ≤ cap) (hbytes : i.bytes * cap ≤ 281474976710656) (h63 : cap ≤ 9223372036854775807) :
    Main P w0 E fm N mm ⟨d, .makeSlice t x y, ty, pos, after, g⟩ (fun _ : Unit => .slice (some ⟨N, 0, none⟩) len cap) (fun _ => N + 1) (fun _ => (N, .cells (List.replicate cap z).toArray e) :: mm) (fun _ => True) := fun ρ hρ w hw => by
  have hb2 : (i.bytes : Int) * (cap : Int) ≤ 281474976710656 := by
    have : ((i.bytes * cap : Nat) : Int) ≤ 281474976710656 := by omega
    rwa [Int.natCast_mul] at this
  have hr := run_make (P := P) w t e i z ht hi hz kl kc (len : Int) (cap : Int) (by omega) (by omega) hb2 (by omega)
  have hcells : z.cells = #[z] := by cases z <;> first | rfl | (simp [Value.oneCell'] at hzo)
  have hmc : madeCells z.cells (cap * 1) = (List.replicate cap z).toArray := by
    rw [hcells]
    apply Array.ext
    · simp [madeCells]
    · intro j _ _
      simp [madeCells, Nat.mod_one]
  simp only [Int.toNat_natCast, h1] at hr
  rw [hmc] at hr
  have : (execOp ρ ⟨d, .makeSlice t x y, ty, pos, after, g⟩).run P w = .ok (.value (.slice (some ⟨w.heap.size, 0, none⟩) len cap)) (w.alloc (.cells (List.replicate cap z).toArray e)) := by
    simp [execOp, hρ _ _ hx, hρ _ _ hy, hr]
  rw [this, hw.size]
  exact ⟨(), trivial, rfl, hw.alloc _⟩

/-- []T{a}: a slice literal; what it holds is told by a run. -/
theorem m_lit {t e : TypeId} {n : Nat} {ps : List (Nat × Operand)} {vs : List (Nat × Value)} {l : List Value} (he : Evs fm ps vs)
    (hb : ∀ w, (Instr.buildSlice t n vs.toArray).run P w = .ok (.slice (some ⟨w.heap.size, 0, none⟩) n n) (w.alloc (.cells l.toArray e))) :
    Main P w0 E fm N mm ⟨d, .buildSlice t n ps.toArray, ty, pos, after, g⟩ (fun _ : Unit => .slice (some ⟨N, 0, none⟩) n n) (fun _ => N + 1) (fun _ => (N, .cells l.toArray e) :: mm) (fun _ => True) := fun ρ hρ w hw => by
  have hm := he.map hρ
  have : (execOp ρ ⟨d, .buildSlice t n ps.toArray, ty, pos, after, g⟩).run P w = .ok (.value (.slice (some ⟨w.heap.size, 0, none⟩) n n)) (w.alloc (.cells l.toArray e)) := by
    simp only [execOp, List.map_toArray, hm]
    simp [hb]
  rw [this, hw.size]
  exact ⟨(), trivial, rfl, hw.alloc _⟩

/-- What stands behind an append: where the row lies now, its capacity, what lies behind its length. -/
structure App where
  b : Nat
  N : Nat
  cap : Nat
  pad : List Value

theorem has_cells {w : World} {b o n : Nat} {l : List Value} {e : TypeId} {fr : Nat × Nat} (h : w.heap[b]? = some (.cells l.toArray e fr)) :
    ∀ j u, ((l.drop o).take n)[j]? = some u → w.cell? ((⟨b, o, none⟩ : Addr).add j) = some u := by
  intro j u hj
  rw [addr_add, cell_at h]
  rw [List.getElem?_take] at hj
  split at hj
  · simpa using hj
  · cases hj

/-- append(nil, x...): something is appended. -/
theorem m_app_nil {t e : TypeId} {i : TypeInfo} {z : Value} {s y : Operand} {b o m c j : Nat} {l news : List Value} {e2 : TypeId} {fr : Nat × Nat}
    (hs : fm.ev s = some (.slice none 0 0)) (hy : fm.ev y = some (.slice (some ⟨b, o, none⟩) m c)) (hm : mm[j]? = some (b, .cells l.toArray e2 fr))
    (ht : P.underlying t = some (.slice e)) (hi : P.info? e = some i) (hz : i.zero = some z) (hzs : z.cells.size = i.size)
    (hnews : (l.drop o).take (m * i.size) = news) (hlen : o + m * i.size ≤ l.length) (h0 : 0 < m) (hb : m * i.bytes ≤ 140737488355328) (h63 : m ≤ 140737488355328) :
    Main P w0 E fm N mm ⟨d, .call { callee := .builtin .append, args := #[s, y], argTypes := #[t, t] }, ty, pos, after, g⟩ (fun x : App => .slice (some ⟨N, 0, none⟩) m x.cap) (fun _ => N + 1) (fun x => (N, .cells (news ++ x.pad).toArray e) :: mm)
      (fun x => m ≤ x.cap ∧ x.cap ≤ maxLen ∧ x.pad.length = (x.cap - m) * i.size) := fun ρ hρ w hw => by
  subst hnews
  have hl : ((l.drop o).take (m * i.size)).length = m * i.size := by simp; omega
  have hr := run_append_nil (P := P) w t ty e i z ht hi hz ⟨b, o, none⟩ m c ((l.drop o).take (m * i.size)) hl (has_cells (hw.get hm)) h0 (by omega) (by omega)
  have : (execOp ρ ⟨d, .call { callee := .builtin .append, args := #[s, y], argTypes := #[t, t] }, ty, pos, after, g⟩).run P w =
      .ok (.value (.slice (some ⟨w.heap.size, 0, none⟩) m (grownCap w m 0 e))) (w.drew.alloc (.cells (((l.drop o).take (m * i.size)).toArray ++ Builtin.zeroCells z.cells (grownCap w m 0 e - m)) e)) := by
    simp [execOp, resolve, invoke, builtin, hρ _ _ hs, hρ _ _ hy, hr]
  rw [this, hw.size]
  have hw' : Mem w0 E N mm w.drew := hw.same ⟨rfl, rfl, rfl, rfl⟩
  refine ⟨⟨N, N + 1, grownCap w m 0 e, (Builtin.zeroCells z.cells (grownCap w m 0 e - m)).toList⟩, ⟨grownCap_ge w m 0 e, grownCap_le_maxLen w m 0 e (by simp only [maxLen]; omega), by simp [size_zeroCells, hzs]⟩, rfl, ?_⟩
  have := hw'.alloc (.cells (((l.drop o).take (m * i.size)).toArray ++ Builtin.zeroCells z.cells (grownCap w m 0 e - m)) e)
  have he : (((l.drop o).take (m * i.size)) ++ (Builtin.zeroCells z.cells (grownCap w m 0 e - m)).toList).toArray = ((l.drop o).take (m * i.size)).toArray ++ Builtin.zeroCells z.cells (grownCap w m 0 e - m) := by
    apply Array.ext'; simp
  simp only [he]
  exact this

/-- append(row, x...), the row the call's own. -/
theorem m_app {t e : TypeId} {i : TypeInfo} {z : Value} {s y : Operand} {b0 n cap b o m c j0 j : Nat} {xs pad l news : List Value} {ms : MM} {e2 : TypeId} {fr : Nat × Nat}
    (hs : fm.ev s = some (.slice (some ⟨b0, 0, none⟩) n cap)) (hy : fm.ev y = some (.slice (some ⟨b, o, none⟩) m c))
    (hm0 : mm[j0]? = some (b0, .cells (xs ++ pad).toArray e (0, 0))) (hm : mm[j]? = some (b, .cells l.toArray e2 fr)) (hms : eraseK mm j0 some = some ms)
    (ht : P.underlying t = some (.slice e)) (hi : P.info? e = some i) (hz : i.zero = some z) (hzs : z.cells.size = i.size)
    (hxs : xs.length = n * i.size) (hpad : pad.length = (cap - n) * i.size) (hnc : n ≤ cap) (hcm : cap ≤ maxLen)
    (hnews : (l.drop o).take (m * i.size) = news) (hlen : o + m * i.size ≤ l.length) (h1 : news.all (·.oneCell') = true) (h63 : n + m ≤ 140737488355328) (hb : (n + m) * i.bytes ≤ 140737488355328) (hE : b0 < w0.heap.size → E b0) :
    Main P w0 E fm N mm ⟨d, .call { callee := .builtin .append, args := #[s, y], argTypes := #[t, t] }, ty, pos, after, g⟩ (fun x : App => .slice (some ⟨x.b, 0, none⟩) (n + m) x.cap) (fun x => x.N) (fun x => (x.b, .cells (xs ++ news ++ x.pad).toArray e) :: ms)
      (fun x => (x.b = b0 ∨ x.b = N) ∧ N ≤ x.N ∧ n + m ≤ x.cap ∧ x.cap ≤ maxLen ∧ x.pad.length = (x.cap - (n + m)) * i.size ∧ (x.b < w0.heap.size → E x.b)) := fun ρ hρ w hw => by
  subst hnews
  have hl : ((l.drop o).take (m * i.size)).length = m * i.size := by simp; omega
  have hms' := eraseK_eq hms
  simp only [Option.some.injEq] at hms'
  have hsub : ms.Sublist mm := hms' ▸ List.eraseIdx_sublist ..
  have hb0 : ∀ p ∈ ms, p.1 ≠ b0 := by
    intro p hp he
    have hnd := hw.nd
    have hj0 : j0 < mm.length := (List.getElem?_eq_some_iff.1 hm0).1
    have hspl : mm = mm.take j0 ++ (b0, .cells (xs ++ pad).toArray e (0, 0)) :: mm.drop (j0 + 1) := by
      have h2 := (List.getElem?_eq_some_iff.1 hm0).2
      rw [← h2, List.getElem_cons_drop, List.take_append_drop]
    have hp' : p ∈ mm.take j0 ++ mm.drop (j0 + 1) := by rw [← List.eraseIdx_eq_take_drop_succ, hms']; exact hp
    rw [hspl] at hnd
    simp only [List.map_append, List.map_cons] at hnd
    have := List.nodup_append.1 hnd
    obtain ⟨_, h3, h4⟩ := this
    rcases List.mem_append.1 hp' with hp' | hp'
    · exact h4 p.1 (List.mem_map_of_mem hp') b0 (by simp) he
    · exact (List.nodup_cons.1 h3).1 (List.mem_map.2 ⟨p, hp', he⟩)
  by_cases hroom : n + m ≤ cap
  · have hfit : n * i.size + ((l.drop o).take (m * i.size)).length ≤ (xs ++ pad).toArray.size := by
      rw [hl]; simp only [List.size_toArray, List.length_append, hxs, hpad]
      rw [← Nat.add_mul, ← Nat.add_mul]
      exact Nat.mul_le_mul_right _ (by omega)
    have hr := run_append_room (P := P) w t ty e i ht hi b0 n cap (xs ++ pad).toArray (hw.get hm0) ⟨b, o, none⟩ m c _ hl (has_cells (hw.get hm)) (by simpa using h1) hroom hfit
    have hcs : ((xs ++ pad).toArray.toList.take (n * i.size) ++ (l.drop o).take (m * i.size) ++ (xs ++ pad).toArray.toList.drop (n * i.size + ((l.drop o).take (m * i.size)).length)) = xs ++ (l.drop o).take (m * i.size) ++ pad.drop (m * i.size) := by
      rw [hl, ← hxs]
      simp [List.drop_append]
    rw [hcs] at hr
    have : (execOp ρ ⟨d, .call { callee := .builtin .append, args := #[s, y], argTypes := #[t, t] }, ty, pos, after, g⟩).run P w =
        .ok (.value (.slice (some ⟨b0, 0, none⟩) (n + m) cap)) (w.setRow b0 (xs ++ (l.drop o).take (m * i.size) ++ pad.drop (m * i.size)).toArray) := by
      simp only [execOp, resolve, invoke, builtin, Sem.run_bind, Sem.run_pure, Result.andThen_ok, List.map_toArray, List.map_cons, List.map_nil, hρ _ _ hs, hρ _ _ hy, hr]
    rw [this]
    refine ⟨⟨b0, N, cap, pad.drop (m * i.size)⟩, ⟨.inl rfl, Nat.le_refl _, hroom, hcm, ?_, hE⟩, rfl, ?_⟩
    · simp only [List.length_drop, hpad]
      rw [← Nat.sub_mul]
      congr 1
      omega
    · have h5 := hw.upd hm0 (upd_setRow (hw.get hm0) (xs ++ (l.drop o).take (m * i.size) ++ pad.drop (m * i.size)).toArray) hE
      refine h5.pick ?_ ?_
      · intro p hp
        rcases List.mem_cons.1 hp with rfl | hp
        · exact List.mem_set (List.getElem?_eq_some_iff.1 hm0).1 _
        · rw [← hms', List.eraseIdx_eq_take_drop_succ] at hp
          rw [List.set_eq_take_append_cons_drop, if_pos (List.getElem?_eq_some_iff.1 hm0).1]
          rcases List.mem_append.1 hp with hp | hp
          · exact List.mem_append_left _ hp
          · exact List.mem_append_right _ (List.mem_cons_of_mem _ hp)
      · simp only [List.map_cons, List.nodup_cons]
        refine ⟨fun hmem => ?_, (hsub.map Prod.fst).nodup hw.nd⟩
        obtain ⟨p, hp, he⟩ := List.mem_map.1 hmem
        exact hb0 p hp he
  · have holds : ∀ j' u, xs[j']? = some u → w.cell? ((⟨b0, 0, none⟩ : Addr).add j') = some u := by
      intro j' u hj'
      have := has_cells (o := 0) (n := xs.length) (hw.get hm0) j' u (by simpa using hj')
      exact this
    have hr := run_append_grow (P := P) w t ty e i z ht hi hz ⟨b0, 0, none⟩ n cap xs hxs holds ⟨b, o, none⟩ m c _ hl (has_cells (hw.get hm)) (by omega) (by omega) (growslice_fits (by omega) hb)
    have : (execOp ρ ⟨d, .call { callee := .builtin .append, args := #[s, y], argTypes := #[t, t] }, ty, pos, after, g⟩).run P w =
        .ok (.value (.slice (some ⟨w.heap.size, 0, none⟩) (n + m) (grownCap w (n + m) cap e))) (w.drew.alloc (.cells (xs.toArray ++ ((l.drop o).take (m * i.size)).toArray ++ Builtin.zeroCells z.cells (grownCap w (n + m) cap e - (n + m))) e)) := by
      simp only [execOp, resolve, invoke, builtin, Sem.run_bind, Sem.run_pure, Result.andThen_ok, List.map_toArray, List.map_cons, List.map_nil, hρ _ _ hs, hρ _ _ hy, hr]
    rw [this, hw.size]
    have hw' : Mem w0 E N ms w.drew := (hw.sublist hsub).same ⟨rfl, rfl, rfl, rfl⟩
    refine ⟨⟨N, N + 1, grownCap w (n + m) cap e, (Builtin.zeroCells z.cells (grownCap w (n + m) cap e - (n + m))).toList⟩, ⟨.inr rfl, Nat.le_succ N, grownCap_ge w _ cap e, grownCap_le_maxLen w _ cap e (by simp only [maxLen]; omega), by simp [size_zeroCells, hzs], fun h => absurd hw.ge (Nat.not_le.2 h)⟩, rfl, ?_⟩
    have he : (xs ++ (l.drop o).take (m * i.size) ++ (Builtin.zeroCells z.cells (grownCap w (n + m) cap e - (n + m))).toList).toArray = xs.toArray ++ ((l.drop o).take (m * i.size)).toArray ++ Builtin.zeroCells z.cells (grownCap w (n + m) cap e - (n + m)) := by
      apply Array.ext'; simp
    simp only [he]
    exact hw'.alloc _

/-- copy(dst, src) of one-cell elements. -/
theorem m_copy {t t2 e : TypeId} {b o m c b2 o2 m2 c2 j j2 k : Nat} {l l2 l' news : List Value} {ms : MM} {i : TypeInfo} {e1 e2 : TypeId} {fr : Nat × Nat}
    (hx : fm.ev x = some (.slice (some ⟨b, o, none⟩) m c)) (hy : fm.ev y = some (.slice (some ⟨b2, o2, none⟩) m2 c2))
    (hm : mm[j]? = some (b, .cells l.toArray e1 (0, 0))) (hm2 : mm[j2]? = some (b2, .cells l2.toArray e2 fr)) (hu : P.underlying t = some (.slice e)) (hi : P.info? e = some i) (h1 : i.size = 1)
    (hk : Nat.min m2 m = k) (hnews : (l2.drop o2).take k = news) (hl2 : o2 + k ≤ l2.length) (hl : o + k ≤ l.length) (hone : news.all (·.oneCell') = true)
    (hl' : l.take o ++ news ++ l.drop (o + k) = l') (hmm : setK mm j (b, .cells l'.toArray e1 (0, 0)) some = some ms) (hE : b < w0.heap.size → E b) :
    Main P w0 E fm N mm ⟨d, .call { callee := .builtin .copy, args := #[x, y], argTypes := #[t, t2] }, ty, pos, after, g⟩ (fun _ : Unit => .int .i64 k) (fun _ => N) (fun _ => ms) (fun _ => True) := fun ρ hρ w hw => by
  subst hnews
  obtain ⟨_, hms⟩ := setK_eq hmm
  simp only [Option.some.injEq] at hms
  have hlen : ((l2.drop o2).take k).length = k := by simp; omega
  have hr := run_copy_row (P := P) w t t2 ty e b o m c ⟨b2, o2, none⟩ m2 c2 l.toArray e1 ((l2.drop o2).take k) hu (by simp [hi, h1]) (hw.get hm) (by rw [hlen, hk]) (has_cells (hw.get hm2)) (by simp [hlen, hl]) (by simpa using hone)
  rw [hlen] at hr
  simp only [goInt] at hr
  rw [hl'] at hr
  have : (execOp ρ ⟨d, .call { callee := .builtin .copy, args := #[x, y], argTypes := #[t, t2] }, ty, pos, after, g⟩).run P w = .ok (.value (.int .i64 k)) (w.setRow b l'.toArray) := by
    simp only [execOp, resolve, invoke, builtin, Sem.run_bind, Sem.run_pure, Result.andThen_ok, List.map_toArray, List.map_cons, List.map_nil, hρ _ _ hx, hρ _ _ hy, hr]
  rw [this]
  exact ⟨(), trivial, rfl, hms ▸ hw.upd hm (upd_setRow (hw.get hm) _) hE⟩

/-! ## Calls -/

theorem m_call {f : FuncId} {xs : Array Operand} {ts : Array TypeId} {vs : Array Value} {ι : Type} {V : ι → Value} {N' : ι → Nat} {mm' : ι → MM} {F : ι → Prop} (hargs : ∀ ρ, Agr fm ρ → xs.map ρ = vs) (hc : ∀ args w, (callFunc f args).run P w = .ok (.enter f args) w)
    (h : ∀ w, Mem w0 E N mm w → Calls P f vs w fun e w' => ∃ x, F x ∧ e = .returned (V x) ∧ Mem w0 E (N' x) (mm' x) w') :
    Main P w0 E fm N mm ⟨d, .call { callee := .value (.func f), args := xs, argTypes := ts }, ty, pos, after, g⟩ V N' mm' F := fun ρ hρ w hw => by
  have h0 : ρ (.func f) = .func (.func f) #[] #[] := hρ _ _ rfl
  have hr : (execOp ρ ⟨d, .call { callee := .value (.func f), args := xs, argTypes := ts }, ty, pos, after, g⟩).run P w = .ok (.enter f vs) w := by
    simp [execOp, resolve, h0, Deferred.ofValue, invoke, hargs ρ hρ, hc]
  rw [hr]
  exact (h w hw).mono fun e w' ⟨z, hF, he, hs⟩ => ⟨V z, he, z, hF, rfl, hs⟩

theorem m_invoke {name : String} {t : TypeId} {u r : Value} {f : FuncId} {xs : List Operand} {ts : Array TypeId} {vs : List Value} {ι : Type} {V : ι → Value} {N' : ι → Nat} {mm' : ι → MM} {F : ι → Prop} (hx : fm.ev x = some (.iface t u))
    (hargs : ∀ ρ, Agr fm ρ → xs.toArray.map ρ = vs.toArray) (hm : ∀ w, (method (P.types.size + Made.depth) t u name).run P w = .ok (f, r) w) (hc : ∀ args w, (callFunc f args).run P w = .ok (.enter f args) w)
    (h : ∀ w, Mem w0 E N mm w → Calls P f (r :: vs).toArray w fun e w' => ∃ x, F x ∧ e = .returned (V x) ∧ Mem w0 E (N' x) (mm' x) w') :
    Main P w0 E fm N mm ⟨d, .call { callee := .invoke x name, args := xs.toArray, argTypes := ts }, ty, pos, after, g⟩ V N' mm' F := fun ρ hρ w hw => by
  have hr : (execOp ρ ⟨d, .call { callee := .invoke x name, args := xs.toArray, argTypes := ts }, ty, pos, after, g⟩).run P w = .ok (.enter f (r :: vs).toArray) w := by
    simp [execOp, resolve, hρ _ _ hx, invoke, hargs ρ hρ, callMethod, hm, hc]
  rw [hr]
  exact (h w hw).mono fun e w' ⟨z, hF, he, hs⟩ => ⟨V z, he, z, hF, rfl, hs⟩

/-! ## Results -/

theorem Agree.getD {n : Nat} {a : Act} (h : Agree n fm a) {t : Nat} (ht : fm.get t = some v) : a.tmps.getD t undef = v := h.ev (x := .tmp t) ht

section
variable {fn : Func} {n : Nat} {v1 v2 v3 v4 v5 v6 : Value} {t1 t2 t3 t4 t5 t6 : Nat}
theorem res0 (hf : fn.results = #[]) : ∀ a w, Agree n fm a → Mem w0 E N mm w → (results fn a.tmps).run P w = .ok (.tuple #[]) w := fun a w _ _ => by simp [results, hf]
theorem res1 (hf : fn.results = #[.tmp t1]) (h1 : fm.get t1 = some v1) : ∀ a w, Agree n fm a → Mem w0 E N mm w → (results fn a.tmps).run P w = .ok v1 w := fun a w ha _ => by
  rw [results_tmp hf, ha.getD h1]
theorem res2 (hf : fn.results = #[.tmp t1, .tmp t2]) (h1 : fm.get t1 = some v1) (h2 : fm.get t2 = some v2) : ∀ a w, Agree n fm a → Mem w0 E N mm w → (results fn a.tmps).run P w = .ok (.tuple #[v1, v2]) w := fun a w ha _ => by
  rw [results_tmp2 hf, ha.getD h1, ha.getD h2]
theorem res3 (hf : fn.results = #[.tmp t1, .tmp t2, .tmp t3]) (h1 : fm.get t1 = some v1) (h2 : fm.get t2 = some v2) (h3 : fm.get t3 = some v3) : ∀ a w, Agree n fm a → Mem w0 E N mm w → (results fn a.tmps).run P w = .ok (.tuple #[v1, v2, v3]) w := fun a w ha _ => by
  rw [results_tmp3 hf, ha.getD h1, ha.getD h2, ha.getD h3]
theorem res4 (hf : fn.results = #[.tmp t1, .tmp t2, .tmp t3, .tmp t4]) (h1 : fm.get t1 = some v1) (h2 : fm.get t2 = some v2) (h3 : fm.get t3 = some v3) (h4 : fm.get t4 = some v4) : ∀ a w, Agree n fm a → Mem w0 E N mm w → (results fn a.tmps).run P w = .ok (.tuple #[v1, v2, v3, v4]) w := fun a w ha _ => by
  have e1 := ha.getD h1
  have e2 := ha.getD h2
  have e3 := ha.getD h3
  have e4 := ha.getD h4
  simp only [results, hf]
  simp only [Array.getD_eq_getD_getElem?] at e1 e2 e3 e4
  simp [e1, e2, e3, e4]
variable {t e : TypeId} {b o k i : Nat} {l vs : List Value} {fr : Nat × Nat}
theorem run_cell (ha : ∀ w, (isAgg t).run P w = .ok true w) (hs : ∀ w, (sizeOf t).run P w = .ok k w) (hm : mm[i]? = some (b, .cells l.toArray e fr)) (hr : rangeK l o k some = some vs) {w : World} (hw : Mem w0 E N mm w) :
    (loadVar t ⟨b, o, none⟩).run P w = .ok (.agg vs.toArray) w := by
  obtain ⟨h1, h2⟩ := rangeK_eq hr
  simp only [Option.some.injEq] at h2
  have := run_loadCells_blk (P := P) (hw.get hm) (o := o) (n := k) (by simpa using h1)
  have he : l.toArray.extract o (o + k) = vs.toArray := by apply Array.ext'; simp [List.extract_eq_take_drop, h2]
  simp [loadVar, ha, hs, this, he]
theorem resc (hf : fn.results = #[.cell t1 t]) (h1 : fm.get t1 = some (.pointer (some ⟨b, o, none⟩))) (ha : ∀ w, (isAgg t).run P w = .ok true w) (hs : ∀ w, (sizeOf t).run P w = .ok k w) (hm : mm[i]? = some (b, .cells l.toArray e fr)) (hr : rangeK l o k some = some vs) :
    ∀ a w, Agree n fm a → Mem w0 E N mm w → (results fn a.tmps).run P w = .ok (.agg vs.toArray) w := fun a w hA hw => by
  have e1 := hA.getD h1
  have := run_cell ha hs hm hr hw
  simp only [results, hf]
  simp only [Array.getD_eq_getD_getElem?] at e1
  simp [e1, asAddr, this]
theorem restc (hf : fn.results = #[.tmp t2, .cell t1 t]) (h1 : fm.get t1 = some (.pointer (some ⟨b, o, none⟩))) (h2 : fm.get t2 = some v2) (ha : ∀ w, (isAgg t).run P w = .ok true w) (hs : ∀ w, (sizeOf t).run P w = .ok k w) (hm : mm[i]? = some (b, .cells l.toArray e fr)) (hr : rangeK l o k some = some vs) :
    ∀ a w, Agree n fm a → Mem w0 E N mm w → (results fn a.tmps).run P w = .ok (.tuple #[v2, .agg vs.toArray]) w := fun a w hA hw => by
  have e1 := hA.getD h1
  have e2 := hA.getD h2
  have := run_cell ha hs hm hr hw
  simp only [results, hf]
  simp only [Array.getD_eq_getD_getElem?] at e1 e2
  simp [e1, e2, asAddr, this]
theorem resc2 (hf : fn.results = #[.cell t1 t, .tmp t2, .tmp t3]) (h1 : fm.get t1 = some (.pointer (some ⟨b, o, none⟩))) (h2 : fm.get t2 = some v2) (h3 : fm.get t3 = some v3) (ha : ∀ w, (isAgg t).run P w = .ok true w) (hs : ∀ w, (sizeOf t).run P w = .ok k w) (hm : mm[i]? = some (b, .cells l.toArray e fr)) (hr : rangeK l o k some = some vs) :
    ∀ a w, Agree n fm a → Mem w0 E N mm w → (results fn a.tmps).run P w = .ok (.tuple #[.agg vs.toArray, v2, v3]) w := fun a w hA hw => by
  have e1 := hA.getD h1
  have e2 := hA.getD h2
  have e3 := hA.getD h3
  have := run_cell ha hs hm hr hw
  simp only [results, hf]
  simp only [Array.getD_eq_getD_getElem?] at e1 e2 e3
  simp [e1, e2, e3, asAddr, this]
theorem resc5 (hf : fn.results = #[.cell t1 t, .tmp t2, .tmp t3, .tmp t4, .tmp t5, .tmp t6]) (h1 : fm.get t1 = some (.pointer (some ⟨b, o, none⟩))) (h2 : fm.get t2 = some v2) (h3 : fm.get t3 = some v3) (h4 : fm.get t4 = some v4) (h5 : fm.get t5 = some v5) (h6 : fm.get t6 = some v6)
    (ha : ∀ w, (isAgg t).run P w = .ok true w) (hs : ∀ w, (sizeOf t).run P w = .ok k w) (hm : mm[i]? = some (b, .cells l.toArray e fr)) (hr : rangeK l o k some = some vs) :
    ∀ a w, Agree n fm a → Mem w0 E N mm w → (results fn a.tmps).run P w = .ok (.tuple #[.agg vs.toArray, v2, v3, v4, v5, v6]) w := fun a w hA hw => by
  have e1 := hA.getD h1
  have e2 := hA.getD h2
  have e3 := hA.getD h3
  have e4 := hA.getD h4
  have e5 := hA.getD h5
  have e6 := hA.getD h6
  have := run_cell ha hs hm hr hw
  simp only [results, hf]
  simp only [Array.getD_eq_getD_getElem?] at e1 e2 e3 e4 e5 e6
  simp [e1, e2, e3, e4, e5, e6, asAddr, this]
end

/-! ## The entry -/

/-- A function's own frame at its entry: its arguments. -/
theorem enter {f : FuncId} {fn : Func} {c : Code} {args : List Value} {n : Nat} {w : World} {R : Ending → World → Prop} (hf : P.funcs[f]? = some fn) (hb : fn.body = some c) (hn : fn.ntmps = n) (hl : args.length ≤ n)
    (fs : FM) (hfs : ∀ t v, fs.get t = some v → args[t]? = some v) (ms : MM) (hh : Has ms w) (hnd : (ms.map Prod.fst).Nodup) (h : Sc P c (bodyPost P fn R) n w E fs w.heap.size ms) : Calls P f args.toArray w R := by
  refine calls_of_wp hf hb ?_
  refine h _ w ⟨by simp [hn]; omega, rfl, fun t v ht => ?_⟩ (Mem.start w E ms hh hnd)
  have := hfs t v ht
  have hlt := (List.getElem?_eq_some_iff.1 this).1
  rw [Array.getElem?_append_left (by simpa using hlt)]
  simpa using this
end Go.Sx
/- A region that draws its order, over frames that are lists of facts: whatever order is drawn, what a walk in one order shows holds at the end: quiet operations commute, those that turn memory stand in a row. No condition. -/
namespace Go.Sx
variable {P : Program}

/-! ## What an operation waits for -/

def dmask (acc : List Nat) (o : Oper) : Nat := o.after.toList.foldl (fun s e => if Region.binds .any e then (s ||| 2 ^ e.on) ||| acc.getD e.on 0 else s) 0
def dmasks : List Oper → List Nat → List Nat
  | [], acc => acc
  | o :: r, acc => dmasks r (acc ++ [dmask acc o])

theorem foldl_bit (acc : List Nat) (j : Nat) : ∀ (l : List Edge) (s : Nat), (l.foldl (fun s e => if Region.binds .any e then (s ||| 2 ^ e.on) ||| acc.getD e.on 0 else s) s).testBit j = true →
    s.testBit j = true ∨ ∃ e ∈ l, Region.binds .any e = true ∧ (e.on = j ∨ (acc.getD e.on 0).testBit j = true) := by
  intro l
  induction l with
  | nil => intro s h; exact .inl h
  | cons e l ih =>
    intro s h
    rcases ih _ h with h | ⟨e', he', h⟩
    · by_cases hb : Region.binds .any e = true
      · dsimp only at h
        rw [if_pos hb] at h
        simp only [Nat.testBit_or, Bool.or_eq_true] at h
        rcases h with (h | h) | h
        · exact .inl h
        · refine .inr ⟨e, by simp, hb, .inl ?_⟩
          rw [Nat.testBit_two_pow] at h
          simpa using h
        · exact .inr ⟨e, by simp, hb, .inr h⟩
      · dsimp only at h
        rw [if_neg hb] at h; exact .inl h
    · exact .inr ⟨e', List.mem_cons_of_mem _ he', h⟩

theorem dmask_bit {acc : List Nat} {o : Oper} {j : Nat} (h : (dmask acc o).testBit j = true) : ∃ e ∈ o.after, Region.binds .any e = true ∧ (e.on = j ∨ (acc.getD e.on 0).testBit j = true) := by
  rcases foldl_bit acc j _ _ h with h | ⟨e, he, h⟩
  · simp at h
  · exact ⟨e, by simpa using he, h⟩

def Closed (ops : Array Oper) (L : Nat → Prop) : Prop := ∀ (j : Nat) (o : Oper), ops[j]? = some o → L j → ∀ e ∈ o.after, Region.binds .any e = true → L e.on
def Waits (ops : Array Oper) (L : Nat → Prop) (i : Nat) : Prop := ∀ o, ops[i]? = some o → ∀ e ∈ o.after, Region.binds .any e = true → L e.on

theorem dmasks_spec (ops : Array Oper) (L : Nat → Prop) (hL : Closed ops L) : ∀ (l : List Oper) (acc : List Nat), (∀ k, l[k]? = ops[acc.length + k]?) →
    (∀ i j, (acc.getD i 0).testBit j = true → Waits ops L i → L j) → ∀ i j, ((dmasks l acc).getD i 0).testBit j = true → Waits ops L i → L j := by
  intro l
  induction l with
  | nil => intro acc _ h; exact h
  | cons o l ih =>
    intro acc hk h
    refine ih _ ?_ ?_
    · intro k
      have := hk (k + 1)
      simp only [List.getElem?_cons_succ] at this
      rw [this]
      simp only [List.length_append, List.length_cons, List.length_nil]
      congr 1
      omega
    · intro i j hij hw
      by_cases hi : i < acc.length
      · refine h i j ?_ hw
        rw [List.getD_eq_getElem?_getD, List.getElem?_append_left hi] at hij
        rw [List.getD_eq_getElem?_getD]; exact hij
      · by_cases hi2 : i = acc.length
        · subst hi2
          have ho : ops[acc.length]? = some o := by simpa using (hk 0).symm
          rw [List.getD_eq_getElem?_getD, List.getElem?_append_right (by omega)] at hij
          simp only [Nat.sub_self, List.getElem?_cons_zero, Option.getD_some] at hij
          obtain ⟨e, he, hb, hj⟩ := dmask_bit hij
          have hLe := hw o ho e he hb
          rcases hj with hj | hj
          · exact hj ▸ hLe
          · exact h e.on j hj fun o' ho' e' he' hb' => hL e.on o' ho' hLe e' he' hb'
        · rw [List.getD_eq_getElem?_getD, List.getElem?_eq_none (by simp; omega)] at hij
          simp at hij

/-! ## The look over a region -/

def Oper.seen (ops : Array Oper) (o : Oper) : List Tmp := o.looksAt ops

def pbefore (π : List Nat) (j i : Nat) : Bool := Nat.blt (π.idxOf j) (π.idxOf i)

def okPair (ops : Array Oper) (π : List Nat) (D : List Nat) (i j : Nat) (oi oj : Oper) : Bool :=
  i == j || ((oi.dst.isNone || oi.dst != oj.dst) && (match oj.dst with
    | some t => !(oi.looksAt ops).contains t || (pbefore π j i && (D.getD i 0).testBit j) || (pbefore π i j && (D.getD j 0).testBit i)
    | none => true))

def drawChk (ops : Array Oper) (π ms : List Nat) : Bool :=
  let D := dmasks ops.toList []
  let r := List.range ops.size
  Region.noSelect ops && r.all (fun i => π.contains i) && π.all (fun i => Nat.blt i ops.size) && decide (π.Nodup) &&
  r.all (fun i => match ops[i]? with
    | some o => o.after.all fun e => !Region.binds .any e || Nat.blt e.on i
    | none => true) &&
  r.all (fun i => r.all fun j => match ops[i]?, ops[j]? with
    | some oi, some oj => okPair ops π D i j oi oj
    | _, _ => true) &&
  ms.all (fun m => π.all fun i => !pbefore π m i || (D.getD i 0).testBit m)

/-! ## The walk in one order -/

/-- Quiet, its guard looked at. -/
def QuietG (P : Program) (ops : Array Oper) (fm : FM) (mm : MM) (o : Oper) (v : Value) : Prop :=
  (o.guard = none ∧ Quiet P fm mm o v) ∨ ∃ j b t c, o.guard = some (j, b) ∧ (ops[j]?).bind (·.dst) = some t ∧ fm.get t = some (.bool c) ∧ ((c = b ∧ Quiet P fm mm o v) ∨ (c = !b ∧ v = undef))

/-- All others come ahead of this one. -/
def lastChk (ops : Array Oper) (i : Nat) : Bool := (List.range ops.size).all fun j => j == i || ((dmasks ops.toList []).getD i 0).testBit j

def Dr (P : Program) (ops : Array Oper) (ms : List Nat) (mp : MM) (K : FM → (World → Prop) → Prop) : List Nat → FM → (World → Prop) → Prop
  | [], fm, M => K fm M
  | i :: r, fm, M => ∃ o, ops[i]? = some o ∧ match ms.contains i with
    | true => o.guard = none ∧ ∃ (ι : Type) (V : ι → Value) (M' : ι → World → Prop), (∀ x w w', M' x w → Same w w' → M' x w') ∧ ((∀ x w, M' x w → Has mp w) ∨ lastChk ops i = true) ∧
        (∀ ρ, Agr fm ρ → ∀ w, M w → Out P (fun u w' => ∃ x, u = V x ∧ M' x w') ((execOp ρ o).run P w)) ∧ ∀ x, Dr P ops ms mp K r (fm.put o.dst (V x)) (M' x)
    | false => ∃ v, QuietG P ops fm mp o v ∧ Dr P ops ms mp K r (fm.put o.dst v) M

/-- An operation looks at its operands alone. -/
theorem exec_seen {ops : Array Oper} {fm : FM} {a : Act} {o : Oper} (hs : ∀ cs b, o.op ≠ .select cs b) (hag : ∀ t ∈ o.looksAt ops, ∀ v, fm.get t = some v → a.tmps[t]? = some v) :
    ∃ ρ, Agr fm ρ ∧ execOp a.eval o = execOp ρ o := by
  classical
  refine ⟨fun x => if x ∈ o.op.operands then a.eval x else (fm.ev x).getD undef, ?_, ?_⟩
  · intro x v hx
    by_cases h : x ∈ o.op.operands
    · simp only [if_pos h]
      cases x with
      | tmp t =>
        have ht : t ∈ o.looksAt ops := List.mem_append_left _ (List.mem_filterMap.2 ⟨.tmp t, by simpa using h, rfl⟩)
        have := hag t ht v hx
        simp [Act.eval, this]
      | const u => simpa [FM.ev, Act.eval] using hx
      | global q => simpa [FM.ev, Act.eval] using hx
      | func f => simpa [FM.ev, Act.eval] using hx
    · simp only [if_neg h, hx, Option.getD_some]
  · exact execOp_congr o hs fun x hx => by simp only [if_pos hx]

theorem guard_seen {ops : Array Oper} {fm : FM} {a : Act} {o : Oper} {j : Nat} {b c : Bool} {t : Nat} (hg : o.guard = some (j, b)) (hj : (ops[j]?).bind (·.dst) = some t) (hc : fm.get t = some (.bool c))
    (hag : ∀ t ∈ o.looksAt ops, ∀ v, fm.get t = some v → a.tmps[t]? = some v) : Region.wanted o (yielded ops a.tmps) = (c == b) := by
  have ht : t ∈ o.looksAt ops := by
    refine List.mem_append_right _ ?_
    simp [hg, hj]
  have := hag t ht _ hc
  simp [Region.wanted, hg, yielded, hj, this]

theorem wpOp_quiet {ops : Array Oper} {Q : Exit → Act → World → Prop} {fm : FM} {mp : MM} {a : Act} {w : World} {o : Oper} {i : Nat} {v : Value} {K : Act → World → Prop} (ho : ops[i]? = some o) (hs : ∀ cs b, o.op ≠ .select cs b)
    (hag : ∀ t ∈ o.looksAt ops, ∀ v, fm.get t = some v → a.tmps[t]? = some v) (hq : QuietG P ops fm mp o v) (hw : Has mp w) (hK : ∀ w', Same w w' → K (a.put o.dst v) w') : wpOp P ops Q i K a w := by
  obtain ⟨ρ, hρ, he⟩ := exec_seen hs hag
  have run : Quiet P fm mp o v → o.wp P a w K Q := fun h => by
    have := h ρ hρ w hw
    rw [← he] at this
    exact wp_of_out this fun u w' ⟨hu, hsm⟩ => by subst hu; exact hK w' hsm
  unfold wpOp
  simp only [ho]
  rcases hq with ⟨hg, hq⟩ | ⟨j, b, t, c, hg, hj, hc, hq⟩
  · rw [if_pos (by simp [Region.wanted, hg])]; exact .inl (run hq)
  · rw [guard_seen hg hj hc hag]
    rcases hq with ⟨rfl, hq⟩ | ⟨rfl, rfl⟩
    · simp only [beq_self_eq_true, if_true]; exact .inl (run hq)
    · have : ((!b) == b) = false := by cases b <;> rfl
      simp only [this, Bool.false_eq_true, if_false]
      exact hK w (Same.refl w)

/-! ## Every order -/

section
variable {ops : Array Oper} {π ms : List Nat} {mp : MM} {K : FM → (World → Prop) → Prop} {n : Nat} {fm0 : FM}

abbrev Lst (listed : Array Bool) (i : Nat) : Prop := listed.getD i false = true

/-- An operation whose value is settled and that has not come up yet. -/
def Pend (P : Program) (ops : Array Oper) (ms : List Nat) (mp : MM) (fm0 fm : FM) (done : List Nat) (i : Nat) : Prop :=
  i ∉ ms ∧ ∃ o v fi, ops[i]? = some o ∧ QuietG P ops fi mp o v ∧ (∀ t, o.dst = some t → fm.get t = some v) ∧
    ∀ t ∈ o.looksAt ops, (∃ j oj, j ∈ done ∧ ops[j]? = some oj ∧ oj.dst = some t ∧ ((dmasks ops.toList []).getD i 0).testBit j = true ∧ fi.get t = fm.get t) ∨
      (fi.get t = fm0.get t ∧ ∀ j oj, ops[j]? = some oj → oj.dst = some t → j = i ∨ ((dmasks ops.toList []).getD j 0).testBit i = true)

structure Inv (P : Program) (ops : Array Oper) (π ms : List Nat) (mp : MM) (K : FM → (World → Prop) → Prop) (n : Nat) (fm0 : FM) (done rest : List Nat) (fm : FM) (M : World → Prop) (listed : Array Bool) (a : Act) (w : World) : Prop where
  lsize : listed.size = ops.size
  closed : Closed ops (Lst listed)
  tsize : a.tmps.size = n
  defers : a.defers = []
  hM : M w
  has : (∀ w, M w → Has mp w) ∨ ∀ i, i < ops.size → Lst listed i
  stab : ∀ w w', M w → Same w w' → M w'
  split : π = done ++ rest
  dr : Dr P ops ms mp K rest fm M
  f1 : ∀ i o t v, i ∈ done → ops[i]? = some o → o.dst = some t → Lst listed i → fm.get t = some v → a.tmps[t]? = some v
  f2 : ∀ t v, fm0.get t = some v → (∀ i o, Lst listed i → ops[i]? = some o → o.dst ≠ some t) → a.tmps[t]? = some v
  f3 : ∀ t, (∀ i o, i ∈ done → ops[i]? = some o → o.dst ≠ some t) → fm.get t = fm0.get t
  l1 : ∀ i, Lst listed i → i ∈ done
  pend : ∀ i, i ∈ done → ¬ Lst listed i → Pend P ops ms mp fm0 fm done i

structure Chk (ops : Array Oper) (π ms : List Nat) : Prop where
  sel : Region.noSelect ops = true
  all : ∀ i, i < ops.size → i ∈ π
  lt : ∀ i, i ∈ π → i < ops.size
  nd : π.Nodup
  low : ∀ (i : Nat) (o : Oper), ops[i]? = some o → ∀ e ∈ o.after, Region.binds .any e = true → e.on < i
  uniq : ∀ (i j : Nat) (oi oj : Oper) (t : Nat), ops[i]? = some oi → ops[j]? = some oj → oi.dst = some t → oj.dst = some t → i = j
  look : ∀ (i j : Nat) (oi oj : Oper) (t : Nat), ops[i]? = some oi → ops[j]? = some oj → oj.dst = some t → t ∈ oi.looksAt ops → i = j ∨ (π.idxOf j < π.idxOf i ∧ ((dmasks ops.toList []).getD i 0).testBit j = true) ∨ (π.idxOf i < π.idxOf j ∧ ((dmasks ops.toList []).getD j 0).testBit i = true)
  main : ∀ m, m ∈ ms → ∀ i, i ∈ π → π.idxOf m < π.idxOf i → ((dmasks ops.toList []).getD i 0).testBit m = true

theorem chk_of (h : drawChk ops π ms = true) : Chk ops π ms := by
  simp only [drawChk, Bool.and_eq_true] at h
  obtain ⟨⟨⟨⟨⟨⟨h1, h2⟩, h3⟩, h4⟩, h5⟩, h6⟩, h7⟩ := h
  have pair : ∀ i j oi oj, ops[i]? = some oi → ops[j]? = some oj → okPair ops π (dmasks ops.toList []) i j oi oj = true := by
    intro i j oi oj hi hj
    have hi' := (Array.getElem?_eq_some_iff.1 hi).1
    have hj' := (Array.getElem?_eq_some_iff.1 hj).1
    have := List.all_eq_true.1 (List.all_eq_true.1 h6 i (List.mem_range.2 hi')) j (List.mem_range.2 hj')
    simpa [hi, hj] using this
  refine ⟨h1, fun i hi => ?_, fun i hi => ?_, by simpa using h4, fun i o ho e he hb => ?_, fun i j oi oj t hi hj hti htj => ?_, fun i j oi oj t hi hj htj hl => ?_, fun m hm i hi hlt => ?_⟩
  · simpa using List.all_eq_true.1 h2 i (List.mem_range.2 hi)
  · have := List.all_eq_true.1 h3 i hi
    exact Eq.mp Nat.blt_eq this
  · have := List.all_eq_true.1 h5 i (List.mem_range.2 (Array.getElem?_eq_some_iff.1 ho).1)
    simp only [ho, Array.all_eq_true_iff_forall_mem] at this
    have h8 := this e he
    simp only [hb, Bool.not_true, Bool.false_or] at h8
    exact Eq.mp Nat.blt_eq h8
  · have := pair i j oi oj hi hj
    simp only [okPair, Bool.or_eq_true, Bool.and_eq_true, beq_iff_eq, hti, htj, Option.isNone_some, Bool.false_eq_true, bne_self_eq_false, false_and, or_false] at this
    exact this
  · have := pair i j oi oj hi hj
    simp only [okPair, Bool.or_eq_true, Bool.and_eq_true, beq_iff_eq, htj, Bool.not_eq_true', List.contains_eq_mem, decide_eq_false_iff_not, hl, not_true_eq_false, false_or, pbefore, Nat.blt_eq] at this
    rcases this with h | ⟨_, h | h⟩
    · exact .inl h
    · exact .inr (.inl h)
    · exact .inr (.inr h)
  · have := List.all_eq_true.1 (List.all_eq_true.1 h7 m hm) i hi
    simp only [Bool.or_eq_true, Bool.not_eq_true', pbefore] at this
    rcases this with h | h
    · have : Nat.blt (π.idxOf m) (π.idxOf i) = true := Eq.mpr Nat.blt_eq hlt
      rw [this] at h; cases h
    · exact h

theorem idx_split {done rest : List Nat} (hnd : (done ++ rest).Nodup) {i j : Nat} (hj : j ∈ done) (hi : i ∈ rest) : (done ++ rest).idxOf j < (done ++ rest).idxOf i := by
  have h1 : (done ++ rest).idxOf j = done.idxOf j := by rw [List.idxOf_append, if_pos hj]
  have hni : i ∉ done := fun h => (List.nodup_append.1 hnd).2.2 i h i hi rfl
  have h2 : (done ++ rest).idxOf i = rest.idxOf i + done.length := by rw [List.idxOf_append, if_neg hni]
  rw [h1, h2]
  have := List.idxOf_lt_length_iff.2 hj
  omega

theorem get_put {fm : FM} {d : Option Nat} {v : Value} {t : Nat} (h : d ≠ some t) : (fm.put d v).get t = fm.get t := by
  cases d with
  | none => rfl
  | some s => rw [FM.put, FM.get_cons, if_neg (fun e => h (by rw [e]))]
theorem get_put_self {fm : FM} {v : Value} {t : Nat} : (fm.put (some t) v).get t = some v := by rw [FM.put, FM.get_cons, if_pos rfl]

/-- What a pending operation looks at, as its one order settled it. -/
theorem pend_looks (C : Chk ops π ms) {done rest : List Nat} {i : Nat} {o : Oper} {fm : FM} (hπ : π = done ++ i :: rest) (ho : ops[i]? = some o)
    (f3 : ∀ t, (∀ j oj, j ∈ done → ops[j]? = some oj → oj.dst ≠ some t) → fm.get t = fm0.get t) {fm' : FM} (hfm' : ∀ t, (∀ d, o.dst = some d → d ≠ t) → fm'.get t = fm.get t) :
    ∀ t ∈ o.looksAt ops, (∃ j oj, j ∈ done ++ [i] ∧ ops[j]? = some oj ∧ oj.dst = some t ∧ ((dmasks ops.toList []).getD i 0).testBit j = true ∧ fm.get t = fm'.get t) ∨
      (fm.get t = fm0.get t ∧ ∀ j oj, ops[j]? = some oj → oj.dst = some t → j = i ∨ ((dmasks ops.toList []).getD j 0).testBit i = true) := by
  intro t ht
  have hnd : (done ++ i :: rest).Nodup := hπ ▸ C.nd
  by_cases hw : ∃ j oj, j ∈ done ∧ ops[j]? = some oj ∧ oj.dst = some t
  · obtain ⟨j, oj, hj, hoj, hdj⟩ := hw
    left
    have hlt := idx_split hnd hj (by simp : i ∈ i :: rest)
    rw [← hπ] at hlt
    have hne : i ≠ j := by
      rintro rfl
      omega
    have hdep : ((dmasks ops.toList []).getD i 0).testBit j = true := by
      rcases C.look i j o oj t ho hoj hdj ht with h | h | h
      · exact absurd h hne
      · exact h.2
      · omega
    refine ⟨j, oj, by simp [hj], hoj, hdj, hdep, (hfm' t fun d hd he => ?_).symm⟩
    subst he
    exact hne (C.uniq i j o oj d ho hoj hd hdj)
  · right
    refine ⟨f3 t fun j oj hj hoj hd => hw ⟨j, oj, hj, hoj, hd⟩, fun j oj hoj hd => ?_⟩
    rcases C.look i j o oj t ho hoj hd ht with h | h | h
    · exact .inl h.symm
    · exfalso
      have hj : j ∈ π := C.all j (Array.getElem?_eq_some_iff.1 hoj).1
      rw [hπ] at hj
      rcases List.mem_append.1 hj with hj | hj
      · exact hw ⟨j, oj, hj, hoj, hd⟩
      · rw [hπ] at h
        rcases List.mem_cons.1 hj with rfl | hj
        · omega
        · have h9 : (done ++ [i] ++ rest).Nodup := by simpa using hnd
          have := idx_split h9 (by simp : i ∈ done ++ [i]) hj
          simp only [List.append_assoc, List.singleton_append] at this
          omega
    · exact .inr h.2

theorem Pend.grow (C : Chk ops π ms) {done rest : List Nat} {i k : Nat} {o : Oper} {fm : FM} {v : Value} (hπ : π = done ++ i :: rest) (ho : ops[i]? = some o) (hk : k ∈ done) (h : Pend P ops ms mp fm0 fm done k) :
    Pend P ops ms mp fm0 (fm.put o.dst v) (done ++ [i]) k := by
  obtain ⟨hms, ok, vk, fi, hok, hq, hd, hl⟩ := h
  have hnd : (done ++ i :: rest).Nodup := hπ ▸ C.nd
  have hik : i ≠ k := by
    rintro rfl
    exact (List.nodup_append.1 hnd).2.2 i hk i (by simp) rfl
  refine ⟨hms, ok, vk, fi, hok, hq, fun t ht => ?_, fun t ht => ?_⟩
  · rw [get_put fun he => hik (C.uniq i k o ok t ho hok he ht)]; exact hd t ht
  · rcases hl t ht with ⟨j, oj, hj, hoj, hdj, hdep, he⟩ | h
    · refine .inl ⟨j, oj, by simp [hj], hoj, hdj, hdep, ?_⟩
      rw [get_put fun he' => ?_]
      · exact he
      · have hij : i ≠ j := by
          rintro rfl
          exact (List.nodup_append.1 hnd).2.2 i hj i (by simp) rfl
        exact hij (C.uniq i j o oj t ho hoj he' hdj)
    · exact .inr h

/-- A quiet operation at the head of what is to come is settled. -/
theorem Inv.absorb (C : Chk ops π ms) {done rest : List Nat} {i : Nat} {fm : FM} {M : World → Prop} {listed : Array Bool} {a : Act} {w : World} (h : Inv P ops π ms mp K n fm0 done (i :: rest) fm M listed a w) (hi : ms.contains i = false) :
    ∃ fm', Inv P ops π ms mp K n fm0 (done ++ [i]) rest fm' M listed a w := by
  have hdr := h.dr
  simp only [Dr, hi] at hdr
  obtain ⟨o, ho, v, hq, hdr⟩ := hdr
  have hnd : (done ++ i :: rest).Nodup := h.split ▸ C.nd
  have hin : ¬ Lst listed i := fun hl => (List.nodup_append.1 hnd).2.2 i (h.l1 i hl) i (by simp) rfl
  refine ⟨fm.put o.dst v, ⟨h.lsize, h.closed, h.tsize, h.defers, h.hM, h.has, h.stab, by rw [h.split]; simp, hdr, ?_, h.f2, ?_, fun k hk => by simp [h.l1 k hk], ?_⟩⟩
  · intro k ok t u hk hok hd hl hu
    rcases List.mem_append.1 hk with hk | hk
    · rw [get_put fun he => ?_] at hu
      · exact h.f1 k ok t u hk hok hd hl hu
      · have := C.uniq i k o ok t ho hok he hd
        subst this
        exact hin hl
    · simp at hk; subst hk; exact absurd hl hin
  · intro t ht
    rw [get_put fun he => ht i o (by simp) ho he]
    exact h.f3 t fun k ok hk hok => ht k ok (by simp [hk]) hok
  · intro k hk hl
    rcases List.mem_append.1 hk with hk | hk
    · exact (h.pend k hk hl).grow C h.split ho hk
    · simp at hk
      subst hk
      refine ⟨by simpa using hi, o, v, fm, ho, hq, fun t ht => by rw [ht]; exact get_put_self, ?_⟩
      exact pend_looks C h.split ho h.f3 fun t ht => get_put fun he => ht t he rfl

theorem Inv.settle (C : Chk ops π ms) {M : World → Prop} {listed : Array Bool} {a : Act} {w : World} : ∀ {rest done : List Nat} {fm : FM}, Inv P ops π ms mp K n fm0 done rest fm M listed a w →
    ∃ done' rest' fm', Inv P ops π ms mp K n fm0 done' rest' fm' M listed a w ∧ (rest' = [] ∨ ∃ m r, rest' = m :: r ∧ ms.contains m = true) := by
  intro rest
  induction rest with
  | nil => intro done fm h; exact ⟨done, [], fm, h, .inl rfl⟩
  | cons i r ih =>
    intro done fm h
    cases hi : ms.contains i with
    | true => exact ⟨done, i :: r, fm, h, .inr ⟨i, r, rfl, hi⟩⟩
    | false =>
      obtain ⟨fm', h'⟩ := h.absorb C hi
      exact ih h'

theorem lst_set {listed : Array Bool} {i : Nat} (hi : i < listed.size) (k : Nat) : Lst (listed.setIfInBounds i true) k ↔ k = i ∨ Lst listed k := by
  by_cases h : i = k
  · subst h; simp [Lst, hi]
  · unfold Lst
    rw [getD_set_ne false h]
    constructor
    · exact .inr
    · rintro (rfl | h')
      · exact absurd rfl h
      · exact h'

theorem countP_lt {p q : Nat → Bool} {i : Nat} : ∀ {l : List Nat}, (∀ x ∈ l, q x = true → p x = true) → i ∈ l → p i = true → q i = false → l.countP q < l.countP p := by
  intro l
  induction l with
  | nil => intro _ h; cases h
  | cons x l ih =>
    intro h hi hp hq
    simp only [List.countP_cons]
    have hle : l.countP q ≤ l.countP p := List.countP_mono_left fun y hy => h y (by simp [hy])
    rcases List.mem_cons.1 hi with rfl | hi
    · simp [hp, hq]; omega
    · have := ih (fun y hy => h y (by simp [hy])) hi hp hq
      by_cases hqx : q x = true
      · simp [hqx, h x (by simp) hqx, this]
      · simp [hqx]; omega

def left (ops : Array Oper) (listed : Array Bool) : Nat := (List.range ops.size).countP fun i => !listed.getD i false

theorem left_set {listed : Array Bool} {i : Nat} (hs : listed.size = ops.size) (hi : i < ops.size) (hl : ¬ Lst listed i) : left ops (listed.setIfInBounds i true) < left ops listed := by
  refine countP_lt (i := i) (fun x _ hx => ?_) (List.mem_range.2 hi) (by simpa [Lst] using hl) ?_
  · by_cases h : Lst listed x
    · have := (lst_set (i := i) (by omega) x).2 (.inr h)
      simp only [Lst] at this
      simp [this] at hx
    · simpa [Lst] using h
  · have := (lst_set (i := i) (listed := listed) (by omega) i).2 (.inl rfl)
    simp only [Lst] at this
    simp [this]

theorem all_listed (C : Chk ops π ms) {listed : Array Bool} (hs : listed.size = ops.size) (hr : Region.ready .any ops listed = []) : ∀ i, i < ops.size → Lst listed i := by
  intro i
  induction i using Nat.strongRecOn with
  | _ i ih =>
    intro hi
    rcases Bool.eq_false_or_eq_true (listed.getD i false) with h | h
    · exact h
    · exfalso
      have ho : ops[i]? = some ops[i] := Array.getElem?_eq_getElem hi
      have : i ∈ Region.ready .any ops listed := mem_ready.2 ⟨by simp [hs, hi] at h ⊢; exact h, ops[i], ho, fun e he hb => ih e.on (C.low i _ ho e he hb) (by have := C.low i _ ho e he hb; omega)⟩
      rw [hr] at this
      cases this

theorem looks_now {done rest : List Nat} {fm fi : FM} {M : World → Prop} {listed : Array Bool} {a : Act} {w : World} (h : Inv P ops π ms mp K n fm0 done rest fm M listed a w) {i : Nat} {o : Oper} (hi : ¬ Lst listed i)
    (hw : Waits ops (Lst listed) i)
    (hl : ∀ t ∈ o.looksAt ops, (∃ j oj, j ∈ done ++ [i] ∧ ops[j]? = some oj ∧ oj.dst = some t ∧ ((dmasks ops.toList []).getD i 0).testBit j = true ∧ fi.get t = fm.get t) ∨
      (fi.get t = fm0.get t ∧ ∀ j oj, ops[j]? = some oj → oj.dst = some t → j = i ∨ ((dmasks ops.toList []).getD j 0).testBit i = true)) :
    ∀ t ∈ o.looksAt ops, ∀ v, fi.get t = some v → a.tmps[t]? = some v := by
  intro t ht v hv
  have spec := dmasks_spec ops (Lst listed) h.closed ops.toList [] (by simp) (by intro i j hb; simp at hb)
  rcases hl t ht with ⟨j, oj, hj, hoj, hd, hdep, he⟩ | ⟨he, hno⟩
  · have hlj := spec i j hdep hw
    exact h.f1 j oj t v (h.l1 j hlj) hoj hd hlj (he ▸ hv)
  · refine h.f2 t v (he ▸ hv) fun j oj hlj hoj hd => ?_
    rcases hno j oj hoj hd with rfl | hdep
    · exact hi hlj
    · exact hi (spec j i hdep fun o' ho' e he' hb => h.closed j o' ho' hlj e he' hb)

theorem draw_any (C : Chk ops π ms) {Q : Exit → Act → World → Prop} (hK : ∀ fm M, K fm M → ∀ a w, Agree n fm a → M w → Q .normal a w) (hn : ∀ (i : Nat) (o : Oper) (d : Nat), ops[i]? = some o → o.dst = some d → d < n) :
    ∀ (fuel : Nat) (listed : Array Bool) (a : Act) (w : World) (done rest : List Nat) (fm : FM) (M : World → Prop), left ops listed ≤ fuel → Inv P ops π ms mp K n fm0 done rest fm M listed a w → wpAny P .any ops Q fuel listed a w := by
  have ends : ∀ (listed : Array Bool) (a : Act) (w : World) (done rest : List Nat) (fm : FM) (M : World → Prop), (∀ i, i < ops.size → Lst listed i) → Inv P ops π ms mp K n fm0 done rest fm M listed a w → Q .normal a w := by
    intro listed a w done rest fm M hall h
    have hr : rest = [] := by
      cases hrest : rest with
      | nil => rfl
      | cons m r =>
        exfalso
        have hm : m ∈ π := by rw [h.split, hrest]; simp
        have hnd : (done ++ m :: r).Nodup := by rw [← hrest, ← h.split]; exact C.nd
        exact (List.nodup_append.1 hnd).2.2 m (h.l1 m (hall m (C.lt m hm))) m (by simp) rfl
    subst hr
    refine hK fm M h.dr a w ⟨h.tsize, h.defers, fun t v ht => ?_⟩ h.hM
    by_cases hw : ∃ i o, i ∈ done ∧ ops[i]? = some o ∧ o.dst = some t
    · obtain ⟨i, o, hi, ho, hd⟩ := hw
      exact h.f1 i o t v hi ho hd (hall i (Array.getElem?_eq_some_iff.1 ho).1) ht
    · have h3 := h.f3 t fun i o hi ho hd => hw ⟨i, o, hi, ho, hd⟩
      exact h.f2 t v (h3 ▸ ht) fun i o hl ho hd => hw ⟨i, o, h.l1 i hl, ho, hd⟩
  have zero : ∀ listed : Array Bool, left ops listed = 0 → ∀ i, i < ops.size → Lst listed i := by
    intro listed h i hi
    have := List.countP_eq_zero.1 h i (List.mem_range.2 hi)
    simpa [Lst] using this
  intro fuel
  induction fuel with
  | zero =>
    intro listed a w done rest fm M hf h
    have hall := zero listed (by omega)
    refine ⟨?_, ends listed a w done rest fm M hall h⟩
    rw [List.eq_nil_iff_forall_not_mem]
    intro i hi
    obtain ⟨h0, o, ho, _⟩ := mem_ready.1 hi
    have hlt := (Array.getElem?_eq_some_iff.1 ho).1
    have h1 := hall i hlt
    have hsz := h.lsize
    simp [Lst, hsz, hlt] at h0 h1
    rw [h1] at h0; cases h0
  | succ fuel ih =>
    intro listed a w done rest fm M hf h
    refine ⟨fun hr => ends listed a w done rest fm M (all_listed C h.lsize hr) h, fun i hi => ?_⟩
    obtain ⟨done, rest, fm, h, hrest⟩ := h.settle C
    obtain ⟨h0, o, ho, hdeps⟩ := mem_ready.1 hi
    have hlt := (Array.getElem?_eq_some_iff.1 ho).1
    have hil : ¬ Lst listed i := by
      intro hl
      have hsz := h.lsize
      simp [Lst, hsz, hlt] at h0 hl
      rw [h0] at hl; cases hl
    have hwaits : Waits ops (Lst listed) i := fun o' ho' e he hb => by
      rw [ho] at ho'; cases ho'
      exact hdeps e he hb
    have hclosed' : Closed ops (Lst (listed.setIfInBounds i true)) := by
      intro j oj hoj hlj e he hb
      rw [lst_set (by rw [h.lsize]; exact hlt)] at hlj ⊢
      rcases hlj with rfl | hlj
      · rw [ho] at hoj; cases hoj
        exact .inr (hdeps e he hb)
      · exact .inr (h.closed j oj hoj hlj e he hb)
    have hfuel : left ops (listed.setIfInBounds i true) ≤ fuel := by
      have := left_set h.lsize hlt hil
      omega
    have hsel := Region.noSelect_spec C.sel i o
    have hlsz : (listed.setIfInBounds i true).size = ops.size := by simp [h.lsize]
    have hset := fun k => lst_set (listed := listed) (i := i) (by rw [h.lsize]; exact hlt) k
    have tput : ∀ v, (a.put o.dst v).tmps.size = n := by
      intro v
      cases hd : o.dst <;> simp [Act.put, h.tsize]
    have dput : ∀ v, (a.put o.dst v).defers = [] := by
      intro v
      cases hd : o.dst <;> simp [Act.put, h.defers]
    have tget : ∀ (v : Value) (t : Nat), o.dst ≠ some t → (a.put o.dst v).tmps[t]? = a.tmps[t]? := by
      intro v t ht
      cases hd : o.dst with
      | none => rfl
      | some s =>
        have : s ≠ t := fun e => ht (by rw [hd, e])
        simp [Act.put, Array.getElem?_setIfInBounds_ne this]
    have tself : ∀ (v : Value) (t : Nat), o.dst = some t → (a.put o.dst v).tmps[t]? = some v := by
      intro v t ht
      have hlt' : t < a.tmps.size := by rw [h.tsize]; exact hn i o t ho ht
      simp [ht, Act.put, Array.getElem?_setIfInBounds_self_of_lt hlt']
    by_cases hdone : i ∈ done
    · -- it is settled
      obtain ⟨hms, o', v, fi, ho', hq, hdst, hl⟩ := h.pend i hdone hil
      rw [ho] at ho'; cases ho'
      have hl' : ∀ t ∈ o.looksAt ops, (∃ j oj, j ∈ done ++ [i] ∧ ops[j]? = some oj ∧ oj.dst = some t ∧ ((dmasks ops.toList []).getD i 0).testBit j = true ∧ fi.get t = fm.get t) ∨
          (fi.get t = fm0.get t ∧ ∀ j oj, ops[j]? = some oj → oj.dst = some t → j = i ∨ ((dmasks ops.toList []).getD j 0).testBit i = true) := fun t ht => by
        rcases hl t ht with ⟨j, oj, hj, r⟩ | r
        · exact .inl ⟨j, oj, by simp [hj], r⟩
        · exact .inr r
      refine wpOp_quiet ho (fun cs b => hsel cs b ho) (looks_now h hil hwaits hl') hq (h.has.elim (fun h1 => h1 w h.hM) fun h1 => absurd (h1 i hlt) hil) fun w' hsame => ?_
      refine ih _ _ _ done rest fm M hfuel ⟨hlsz, hclosed', tput v, dput v, h.stab w w' h.hM hsame, h.has.imp id fun h1 k hk => (hset k).2 (.inr (h1 k hk)), h.stab, h.split, h.dr, ?_, ?_, h.f3, ?_, ?_⟩
      · intro k ok t u hk hok hd hlk hu
        by_cases hdt : o.dst = some t
        · have := C.uniq k i ok o t hok ho hd hdt
          subst this
          rw [tself v t hdt]
          rw [hdst t hdt] at hu
          exact hu
        · rw [tget v t hdt]
          rcases (hset k).1 hlk with rfl | hlk
          · rw [ho] at hok; cases hok; exact absurd hd hdt
          · exact h.f1 k ok t u hk hok hd hlk hu
      · intro t u hu hno
        have hdt : o.dst ≠ some t := hno i o ((hset i).2 (.inl rfl)) ho
        rw [tget v t hdt]
        exact h.f2 t u hu fun k ok hlk hok => hno k ok ((hset k).2 (.inr hlk)) hok
      · intro k hk
        rcases (hset k).1 hk with rfl | hk
        · exact hdone
        · exact h.l1 k hk
      · intro k hk hlk
        exact h.pend k hk fun hl => hlk ((hset k).2 (.inr hl))
    · -- it is the next that turns memory
      have hiπ : i ∈ π := C.all i hlt
      rw [h.split] at hiπ
      have hir : i ∈ rest := (List.mem_append.1 hiπ).resolve_left hdone
      rcases hrest with rfl | ⟨m, r, rfl, hm⟩
      · cases hir
      · have him : i = m := by
          rcases List.mem_cons.1 hir with h1 | h1
          · exact h1
          · exfalso
            have hnd : (done ++ [m] ++ r).Nodup := by simpa using (h.split ▸ C.nd : (done ++ m :: r).Nodup)
            have hlt' := idx_split hnd (by simp : m ∈ done ++ [m]) h1
            have hπ' : done ++ [m] ++ r = π := by rw [h.split]; simp
            rw [hπ'] at hlt'
            have hdep := C.main m (by simpa using hm) i (C.all i hlt) hlt'
            have spec := dmasks_spec ops (Lst listed) h.closed ops.toList [] (by simp) (by intro i j hb; simp at hb)
            have hlm := spec i m hdep hwaits
            have hnd' : (done ++ m :: r).Nodup := h.split ▸ C.nd
            exact (List.nodup_append.1 hnd').2.2 m (h.l1 m hlm) m (by simp) rfl
        subst him
        have hdr := h.dr
        simp only [Dr, hm] at hdr
        obtain ⟨o', ho', hg, ι, V, M', hst, hhas, hmain, hdr⟩ := hdr
        rw [ho] at ho'; cases ho'
        have hlook := looks_now h hil hwaits (fi := fm) (o := o) (pend_looks C h.split ho h.f3 fun t _ => rfl)
        obtain ⟨ρ, hρ, he⟩ := exec_seen (fun cs b => hsel cs b ho) hlook
        have hout := hmain ρ hρ w h.hM
        rw [← he] at hout
        have hallnow : lastChk ops i = true → ∀ k, k < ops.size → Lst (listed.setIfInBounds i true) k := fun hl k hk => by
          have h1 := List.all_eq_true.1 hl k (List.mem_range.2 hk)
          have spec := dmasks_spec ops (Lst listed) h.closed ops.toList [] (by simp) (by intro i j hb; simp at hb)
          refine (hset k).2 ?_
          rcases (Bool.or_eq_true _ _).mp h1 with h2 | h2
          · exact .inl (by simpa using h2)
          · exact .inr (spec i k h2 hwaits)
        unfold wpOp
        simp only [ho]
        rw [if_pos (by simp [Region.wanted, hg])]
        refine .inl (wp_of_out hout fun u w' ⟨x, hu, hM'⟩ => ?_)
        subst hu
        have hnd : (done ++ i :: r).Nodup := h.split ▸ C.nd
        refine ih _ _ _ (done ++ [i]) r (fm.put o.dst (V x)) (M' x) hfuel ⟨hlsz, hclosed', tput _, dput _, hM', hhas.imp (fun h1 => h1 x) hallnow, hst x, by rw [h.split]; simp, hdr x, ?_, ?_, ?_, ?_, ?_⟩
        · intro k ok t u hk hok hd hlk hu
          by_cases hdt : o.dst = some t
          · have := C.uniq k i ok o t hok ho hd hdt
            subst this
            rw [tself _ t hdt]
            rw [hdt, get_put_self] at hu
            exact hu
          · rw [tget _ t hdt]
            rw [get_put hdt] at hu
            rcases (hset k).1 hlk with rfl | hlk
            · rw [ho] at hok; cases hok; exact absurd hd hdt
            · exact h.f1 k ok t u (h.l1 k hlk) hok hd hlk hu
        · intro t u hu hno
          have hdt : o.dst ≠ some t := hno i o ((hset i).2 (.inl rfl)) ho
          rw [tget _ t hdt]
          exact h.f2 t u hu fun k ok hlk hok => hno k ok ((hset k).2 (.inr hlk)) hok
        · intro t ht
          rw [get_put (ht i o (by simp) ho)]
          exact h.f3 t fun k ok hk hok => ht k ok (by simp [hk]) hok
        · intro k hk
          rcases (hset k).1 hk with rfl | hk
          · simp
          · simp [h.l1 k hk]
        · intro k hk hlk
          rcases List.mem_append.1 hk with hk | hk
          · exact (h.pend k hk fun hl => hlk ((hset k).2 (.inr hl))).grow C h.split ho hk
          · simp at hk
            exact absurd ((hset k).2 (.inl hk)) hlk
end

/-! ## The rule -/

section
variable {Q : Exit → Act → World → Prop} {n : Nat} {w0 : World} {E : Nat → Prop} {fm : FM} {N : Nat} {mm : MM}

/-- What stands behind the region. -/
def DrEnd (Q : Exit → Act → World → Prop) (n : Nat) (fm : FM) (M : World → Prop) : Prop := ∀ a w, Agree n fm a → M w → Q .normal a w

def dstLt (ops : Array Oper) (n : Nat) : Bool := ops.all fun o => match o.dst with | some d => Nat.blt d n | none => true

theorem sc_draw {id : Nat} {ops : Array Oper} (π ms : List Nat) (mp : MM) (hmix : P.follows .mixedOrders = true) (hchk : drawChk ops π ms = true) (hd : dstLt ops n = true) (hmp : List.Subset mp mm)
    (h : Dr P ops ms mp (DrEnd Q n) π fm (Mem w0 E N mm)) : Sc P (.region id ops true) Q n w0 E fm N mm := fun a w ha hw => by
  refine wp_region_any hmix ?_
  have C := chk_of hchk
  have hsame : Same w { w with drawn := w.drawn + 1 } := Same.drawn w
  have hf : ∀ i, ¬ Lst (Array.replicate ops.size false) i := by
    intro i hi
    by_cases h : i < ops.size <;> simp [Lst, h] at hi
  have hdn : ∀ (i : Nat) (o : Oper) (d : Nat), ops[i]? = some o → o.dst = some d → d < n := by
    intro i o d ho hod
    have := Array.all_eq_true_iff_forall_mem.1 hd o (Array.mem_of_getElem? ho)
    simp only [hod] at this
    exact Eq.mp Nat.blt_eq this
  refine draw_any (fm0 := fm) (mp := mp) (K := DrEnd Q n) C (fun _ _ h => h) hdn ops.size _ a _ [] π fm (Mem w0 E N mm) ?_ ?_
  · unfold left
    exact Nat.le_trans List.countP_le_length (by simp)
  · exact ⟨by simp, fun j o _ hl => absurd hl (hf j), ha.size, ha.defers, hw.same hsame, .inl fun w hw p hp => hw.has p (hmp hp), fun w w' hw hs => hw.same hs, by simp, h, fun i _ _ _ hi => absurd hi (by simp), fun t v ht _ => ha.get t v ht, fun _ _ => rfl,
      fun i hl => absurd hl (hf i), fun i hi => absurd hi (by simp)⟩

variable {ops : Array Oper} {ms : List Nat} {mp : MM} {K : FM → (World → Prop) → Prop} {r : List Nat} {i : Nat} {M : World → Prop} {d : Nat} {op : Op} {ty : TypeId} {pos : String} {after : Array Edge} {v : Value}

theorem dr_nil (h : Se Q .normal n w0 E fm N mm) : Dr P ops ms mp (DrEnd Q n) [] fm (Mem w0 E N mm) := h
theorem dr_q (ho : ops[i]? = some ⟨some d, op, ty, pos, after, none⟩) (hi : ms.contains i = false) (hq : Quiet P fm mp ⟨some d, op, ty, pos, after, none⟩ v) (h : Dr P ops ms mp K r ((d, v) :: fm) M) : Dr P ops ms mp K (i :: r) fm M := by
  refine ⟨_, ho, ?_⟩
  rw [hi]
  exact ⟨v, .inl ⟨rfl, hq⟩, h⟩
theorem dr_q0 (ho : ops[i]? = some ⟨none, op, ty, pos, after, none⟩) (hi : ms.contains i = false) (hq : Quiet P fm mp ⟨none, op, ty, pos, after, none⟩ v) (h : Dr P ops ms mp K r fm M) : Dr P ops ms mp K (i :: r) fm M := by
  refine ⟨_, ho, ?_⟩
  rw [hi]
  exact ⟨v, .inl ⟨rfl, hq⟩, h⟩
theorem dr_gy {j t : Nat} {b c : Bool} (ho : ops[i]? = some ⟨some d, op, ty, pos, after, some (j, b)⟩) (hi : ms.contains i = false) (hj : (ops[j]?).bind (·.dst) = some t) (hc : fm.get t = some (.bool c)) (hb : c = b)
    (hq : Quiet P fm mp ⟨some d, op, ty, pos, after, some (j, b)⟩ v) (h : Dr P ops ms mp K r ((d, v) :: fm) M) : Dr P ops ms mp K (i :: r) fm M := by
  refine ⟨_, ho, ?_⟩
  rw [hi]
  exact ⟨v, .inr ⟨j, b, t, c, rfl, hj, hc, .inl ⟨hb, hq⟩⟩, h⟩
theorem dr_gn {j t : Nat} {b c : Bool} (ho : ops[i]? = some ⟨some d, op, ty, pos, after, some (j, b)⟩) (hi : ms.contains i = false) (hj : (ops[j]?).bind (·.dst) = some t) (hc : fm.get t = some (.bool c)) (hb : c = !b)
    (h : Dr P ops ms mp K r ((d, undef) :: fm) M) : Dr P ops ms mp K (i :: r) fm M := by
  refine ⟨_, ho, ?_⟩
  rw [hi]
  exact ⟨undef, .inr ⟨j, b, t, c, rfl, hj, hc, .inr ⟨hb, rfl⟩⟩, h⟩
theorem dr_m {ι : Type} {V : ι → Value} {N' : ι → Nat} {mm' : ι → MM} {F : ι → Prop} (ho : ops[i]? = some ⟨some d, op, ty, pos, after, none⟩) (hi : ms.contains i = true) (hq : Main P w0 E fm N mm ⟨some d, op, ty, pos, after, none⟩ V N' mm' F)
    (hmp : ∀ x, F x → List.Subset mp (mm' x)) (h : ∀ x, F x → Dr P ops ms mp K r ((d, V x) :: fm) (Mem w0 E (N' x) (mm' x))) : Dr P ops ms mp K (i :: r) fm (Mem w0 E N mm) := by
  refine ⟨_, ho, ?_⟩
  rw [hi]
  exact ⟨rfl, {x // F x}, fun x => V x.1, fun x => Mem w0 E (N' x.1) (mm' x.1), fun x w w' hw hs => hw.same hs, .inl fun x w hw p hp => hw.has p (hmp x.1 x.2 hp),
    fun ρ hρ w hw => (hq ρ hρ w hw).mono fun u w' ⟨x, hF, hu, hm⟩ => ⟨⟨x, hF⟩, hu, hm⟩, fun x => h x.1 x.2⟩
theorem dr_m0 {ι : Type} {V : ι → Value} {N' : ι → Nat} {mm' : ι → MM} {F : ι → Prop} (ho : ops[i]? = some ⟨none, op, ty, pos, after, none⟩) (hi : ms.contains i = true) (hq : Main P w0 E fm N mm ⟨none, op, ty, pos, after, none⟩ V N' mm' F)
    (hmp : ∀ x, F x → List.Subset mp (mm' x)) (h : ∀ x, F x → Dr P ops ms mp K r fm (Mem w0 E (N' x) (mm' x))) : Dr P ops ms mp K (i :: r) fm (Mem w0 E N mm) := by
  refine ⟨_, ho, ?_⟩
  rw [hi]
  exact ⟨rfl, {x // F x}, fun x => V x.1, fun x => Mem w0 E (N' x.1) (mm' x.1), fun x w w' hw hs => hw.same hs, .inl fun x w hw p hp => hw.has p (hmp x.1 x.2 hp),
    fun ρ hρ w hw => (hq ρ hρ w hw).mono fun u w' ⟨x, hF, hu, hm⟩ => ⟨⟨x, hF⟩, hu, hm⟩, fun x => h x.1 x.2⟩
theorem dr_m0l {ι : Type} {V : ι → Value} {N' : ι → Nat} {mm' : ι → MM} {F : ι → Prop} (ho : ops[i]? = some ⟨none, op, ty, pos, after, none⟩) (hi : ms.contains i = true) (hq : Main P w0 E fm N mm ⟨none, op, ty, pos, after, none⟩ V N' mm' F)
    (hl : lastChk ops i = true) (h : ∀ x, F x → Dr P ops ms mp K r fm (Mem w0 E (N' x) (mm' x))) : Dr P ops ms mp K (i :: r) fm (Mem w0 E N mm) := by
  refine ⟨_, ho, ?_⟩
  rw [hi]
  exact ⟨rfl, {x // F x}, fun x => V x.1, fun x => Mem w0 E (N' x.1) (mm' x.1), fun x w w' hw hs => hw.same hs, .inr hl,
    fun ρ hρ w hw => (hq ρ hρ w hw).mono fun u w' ⟨x, hF, hu, hm⟩ => ⟨⟨x, hF⟩, hu, hm⟩, fun x => h x.1 x.2⟩
end
end Go.Sx
/- Small words beside the steps: numbers that fit, a field's place written out, loads out of written lists, bytes as numbers. No condition. -/
namespace Go.Sx
variable {P : Program} {fm : FM} {mm : MM} {d : Option Nat} {ty : TypeId} {pos : String} {after : Array Edge} {g : Option (Nat × Bool)} {v vx vy : Value} {x y : Operand}

theorem w_i64 {a : Int} (h0 : -9223372036854775808 ≤ a) (h1 : a ≤ 9223372036854775807) : IntKind.i64.wrap a = a := by rw [IntKind.wrap_i64]; omega
theorem w_u64 {a : Int} (h0 : 0 ≤ a) (h1 : a ≤ 18446744073709551615) : IntKind.u64.wrap a = a := by
  simp only [IntKind.wrap, IntKind.signed, IntKind.bits, Bool.false_and, Bool.false_eq_true, if_false]; omega
theorem w_u32 {a : Int} (h0 : 0 ≤ a) (h1 : a ≤ 4294967295) : IntKind.u32.wrap a = a := by
  simp only [IntKind.wrap, IntKind.signed, IntKind.bits, Bool.false_and, Bool.false_eq_true, if_false]; omega
theorem w_u16 {a : Int} (h0 : 0 ≤ a) (h1 : a ≤ 65535) : IntKind.u16.wrap a = a := by
  simp only [IntKind.wrap, IntKind.signed, IntKind.bits, Bool.false_and, Bool.false_eq_true, if_false]; omega
theorem w_u8 {a : Int} (h0 : 0 ≤ a) (h1 : a ≤ 255) : IntKind.u8.wrap a = a := by
  simp only [IntKind.wrap, IntKind.signed, IntKind.bits, Bool.false_and, Bool.false_eq_true, if_false]; omega
theorem m_u32 (a : Int) : IntKind.u32.wrap a = a % 4294967296 := by
  simp only [IntKind.wrap, IntKind.signed, IntKind.bits, Bool.false_and, Bool.false_eq_true, if_false]; rfl
theorem m_u8 (a : Int) : IntKind.u8.wrap a = a % 256 := by
  simp only [IntKind.wrap, IntKind.signed, IntKind.bits, Bool.false_and, Bool.false_eq_true, if_false]; rfl
theorem m_u64 (a : Int) : IntKind.u64.wrap a = a % 18446744073709551616 := by
  simp only [IntKind.wrap, IntKind.signed, IntKind.bits, Bool.false_and, Bool.false_eq_true, if_false]; rfl
/-- A number of 64 bits as one with a sign. -/
theorem w_i64_hi {a : Int} (h0 : 9223372036854775808 ≤ a) (h1 : a ≤ 18446744073709551615) : IntKind.i64.wrap a = a - 18446744073709551616 := by rw [IntKind.wrap_i64]; omega

theorem q_fieldj {t : TypeId} {i b o s j : Nat} {fs : Array Field} {f : Field} (hx : fm.ev x = some (.pointer (some ⟨b, o, none⟩))) (hu : ∀ w, (underlying t).run P w = .ok (.struct fs) w)
    (hf : fs[i]? = some f) (hs : ∀ w, (sizeOf f.type).run P w = .ok (s + 1) w) (hj : o + f.offset = j) : Quiet P fm mm ⟨d, .fieldAddr t x i, ty, pos, after, g⟩ (.pointer (some ⟨b, j, none⟩)) :=
  hj ▸ q_field hx hu hf hs

theorem q_load1 {t e : TypeId} {b o i : Nat} {l : List Value} {fr : Nat × Nat} (hx : fm.ev x = some (.pointer (some ⟨b, o, none⟩))) (ha : ∀ w, (isAgg t).run P w = .ok false w)
    (hm : mm[i]? = some (b, .cells l.toArray e fr)) (hc : l[o]? = some v) : Quiet P fm mm ⟨d, .load t x, ty, pos, after, g⟩ v :=
  q_load hx ha hm (by simpa using hc)

theorem q_loadK {t e : TypeId} {b o i n : Nat} {l vs : List Value} {fr : Nat × Nat} (hx : fm.ev x = some (.pointer (some ⟨b, o, none⟩))) (ha : ∀ w, (isAgg t).run P w = .ok true w) (hs : ∀ w, (sizeOf t).run P w = .ok n w)
    (hm : mm[i]? = some (b, .cells l.toArray e fr)) (hr : rangeK l o n some = some vs) : Quiet P fm mm ⟨d, .load t x, ty, pos, after, g⟩ (.agg vs.toArray) := by
  obtain ⟨h1, h2⟩ := rangeK_eq hr
  simp only [Option.some.injEq] at h2
  exact q_loads hx ha hs hm (by simpa using h1) (by apply Array.ext'; simp [List.extract_eq_take_drop, h2])

/-- x[l:] of a slice at a number of its own, l less than the capacity. -/
theorem q_slice_k {t e : TypeId} {k : IntKind} {l b o n c s j : Nat} {lo : Operand} (hx : fm.ev x = some (.slice (some ⟨b, o, none⟩) n c)) (hl : fm.ev lo = some (.int k (l : Int)))
    (hu : ∀ w, (underlying t).run P w = .ok (.slice e) w) (hs : ∀ w, (sizeOf e).run P w = .ok s w) (h1 : l ≤ n) (hc : l < c) (hj : o + l * s = j) :
    Quiet P fm mm ⟨d, .slice t x (some lo) none none, ty, pos, after, g⟩ (.slice (some ⟨b, j, none⟩) (n - l) (c - l)) :=
  q_slice_l hx hl hu hs (by omega) (by omega) (by omega) (by simpa using hj) rfl rfl

/-! ## Bytes -/

def u8v (x : UInt8) : Value := .int .u8 (x.toNat : Int)

theorem u8v_one (l : List UInt8) : (l.map u8v).all (·.oneCell') = true := by
  rw [List.all_eq_true]
  intro v hv
  obtain ⟨x, _, rfl⟩ := List.mem_map.1 hv
  rfl

/-- The number of some bytes, the first the greatest. -/
def beN (l : List UInt8) : Nat := l.foldl (fun n b => n * 256 + b.toNat) 0
def numB (big : Bool) (l : List UInt8) : Nat := beN (if big then l else l.reverse)
def fld (big : Bool) (l : List UInt8) (o s : Nat) : Nat := numB big ((l.drop o).take s)

theorem beN_append (l m : List UInt8) : beN (l ++ m) = beN l * 256 ^ m.length + beN m := by
  have key : ∀ (m : List UInt8) (n : Nat), m.foldl (fun n b => n * 256 + b.toNat) n = n * 256 ^ m.length + m.foldl (fun n b => n * 256 + b.toNat) 0 := by
    intro m
    induction m with
    | nil => intro n; simp
    | cons b m ih =>
      intro n
      simp only [List.foldl_cons, List.length_cons]
      rw [ih, ih (0 * 256 + b.toNat)]
      rw [Nat.add_mul, Nat.pow_succ, Nat.mul_assoc, Nat.mul_comm 256]
      simp [Nat.add_assoc, Nat.mul_comm]
  unfold beN
  rw [List.foldl_append, key]

theorem beN_lt (l : List UInt8) : beN l < 256 ^ l.length := by
  have key : ∀ (l : List UInt8) (n : Nat), l.foldl (fun n b => n * 256 + b.toNat) n + 1 ≤ (n + 1) * 256 ^ l.length := by
    intro l
    induction l with
    | nil => intro n; simp
    | cons b l ih =>
      intro n
      have hb := b.toNat_lt
      have h1 := ih (n * 256 + b.toNat)
      have h2 : (n * 256 + b.toNat + 1) * 256 ^ l.length ≤ ((n + 1) * 256) * 256 ^ l.length := Nat.mul_le_mul_right _ (by omega)
      simp only [List.foldl_cons, List.length_cons, Nat.pow_succ]
      rw [Nat.mul_comm (256 ^ l.length) 256, ← Nat.mul_assoc]
      omega
  have := key l 0
  simp only [Nat.zero_add, Nat.one_mul] at this
  exact this

theorem numB_lt (big : Bool) (l : List UInt8) : numB big l < 256 ^ l.length := by
  unfold numB
  cases big
  · have := beN_lt l.reverse; simpa using this
  · simpa using beN_lt l

theorem numB_lt' {big : Bool} {l : List UInt8} {k m : Nat} (h : l.length = k) (hm : 256 ^ k = m) : numB big l < m := by subst h; subst hm; exact numB_lt _ _

theorem numB_append (big : Bool) (l m : List UInt8) : numB big (l ++ m) = if big then numB big l * 256 ^ m.length + numB big m else numB big m * 256 ^ l.length + numB big l := by
  cases big <;> simp [numB, beN_append]

theorem fld_lt (big : Bool) (l : List UInt8) (o s : Nat) : fld big l o s < 256 ^ s := by
  refine Nat.lt_of_lt_of_le (numB_lt _ _) (Nat.pow_le_pow_right (by omega) (by simp; omega))

/-! ## Bits -/

theorem or_shift (N a b s : Nat) (hb : b < 2 ^ s) (ha : a * 2 ^ s + b < 2 ^ N) : (BitVec.ofInt N ((a * 2 ^ s : Nat) : Int) ||| BitVec.ofInt N ((b : Nat) : Int)).toNat = a * 2 ^ s + b := by
  have h1 : (BitVec.ofInt N ((a * 2 ^ s : Nat) : Int)) = BitVec.ofNat N (a * 2 ^ s) := BitVec.ofInt_natCast ..
  have h2 : (BitVec.ofInt N ((b : Nat) : Int)) = BitVec.ofNat N b := BitVec.ofInt_natCast ..
  rw [h1, h2, BitVec.toNat_or, BitVec.toNat_ofNat, BitVec.toNat_ofNat, Nat.mod_eq_of_lt (by omega), Nat.mod_eq_of_lt (by omega)]
  have := Nat.shiftLeft_add_eq_or_of_lt hb a
  rw [Nat.shiftLeft_eq] at this
  exact this.symm
theorem or_shift' (N a b s : Nat) (hb : b < 2 ^ s) (ha : a * 2 ^ s + b < 2 ^ N) : (BitVec.ofInt N ((b : Nat) : Int) ||| BitVec.ofInt N ((a * 2 ^ s : Nat) : Int)).toNat = a * 2 ^ s + b := by
  rw [BitVec.or_comm]; exact or_shift N a b s hb ha

theorem s16_8 {x : Nat} (h : x < 256) : IntKind.u16.wrap ((x : Int) * 2 ^ (min (8 : Int).toNat IntKind.u16.bits)) = ((x * 2 ^ 8 : Nat) : Int) := by
  have : (2 : Int) ^ (min (8 : Int).toNat IntKind.u16.bits) = 256 := rfl
  rw [this, w_u16 (by omega) (by omega)]; omega
theorem s32_16 {x : Nat} (h : x < 65536) : IntKind.u32.wrap ((x : Int) * 2 ^ (min (16 : Int).toNat IntKind.u32.bits)) = ((x * 2 ^ 16 : Nat) : Int) := by
  have : (2 : Int) ^ (min (16 : Int).toNat IntKind.u32.bits) = 65536 := rfl
  rw [this, w_u32 (by omega) (by omega)]; omega
theorem s64_32 {x : Nat} (h : x < 4294967296) : IntKind.u64.wrap ((x : Int) * 2 ^ (min (32 : Int).toNat IntKind.u64.bits)) = ((x * 2 ^ 32 : Nat) : Int) := by
  have : (2 : Int) ^ (min (32 : Int).toNat IntKind.u64.bits) = 4294967296 := rfl
  rw [this, w_u64 (by omega) (by omega)]; omega
theorem s64_8 {x : Nat} (h : x < 72057594037927936) : IntKind.u64.wrap ((x : Int) * 2 ^ (min (8 : Int).toNat IntKind.u64.bits)) = ((x * 2 ^ 8 : Nat) : Int) := by
  have : (2 : Int) ^ (min (8 : Int).toNat IntKind.u64.bits) = 256 := rfl
  rw [this, w_u64 (by omega) (by omega)]; omega
/-- The low part first. -/
theorem o16l {a b : Nat} (ha : a < 256) (hb : b < 256) : IntKind.u16.wrap ((BitVec.ofInt IntKind.u16.bits ((b : Nat) : Int) ||| BitVec.ofInt IntKind.u16.bits ((a * 2 ^ 8 : Nat) : Int)).toNat : Int) = ((a * 256 + b : Nat) : Int) := by
  have h := or_shift' IntKind.u16.bits a b 8 (by omega) (show a * 2 ^ 8 + b < 2 ^ 16 by omega)
  rw [h, w_u16 (by omega) (by omega)]
theorem o32l {a b : Nat} (ha : a < 65536) (hb : b < 65536) : IntKind.u32.wrap ((BitVec.ofInt IntKind.u32.bits ((b : Nat) : Int) ||| BitVec.ofInt IntKind.u32.bits ((a * 2 ^ 16 : Nat) : Int)).toNat : Int) = ((a * 65536 + b : Nat) : Int) := by
  have h := or_shift' IntKind.u32.bits a b 16 (by omega) (show a * 2 ^ 16 + b < 2 ^ 32 by omega)
  rw [h, w_u32 (by omega) (by omega)]
theorem o64l {a b : Nat} (ha : a < 4294967296) (hb : b < 4294967296) : IntKind.u64.wrap ((BitVec.ofInt IntKind.u64.bits ((b : Nat) : Int) ||| BitVec.ofInt IntKind.u64.bits ((a * 2 ^ 32 : Nat) : Int)).toNat : Int) = ((a * 4294967296 + b : Nat) : Int) := by
  have h := or_shift' IntKind.u64.bits a b 32 (by omega) (show a * 2 ^ 32 + b < 2 ^ 64 by omega)
  rw [h, w_u64 (by omega) (by omega)]
/-- The high part first. -/
theorem o32h {a b : Nat} (ha : a < 65536) (hb : b < 65536) : IntKind.u32.wrap ((BitVec.ofInt IntKind.u32.bits ((a * 2 ^ 16 : Nat) : Int) ||| BitVec.ofInt IntKind.u32.bits ((b : Nat) : Int)).toNat : Int) = ((a * 65536 + b : Nat) : Int) := by
  have h := or_shift IntKind.u32.bits a b 16 (by omega) (show a * 2 ^ 16 + b < 2 ^ 32 by omega)
  rw [h, w_u32 (by omega) (by omega)]
theorem o64h {a b : Nat} (ha : a < 4294967296) (hb : b < 4294967296) : IntKind.u64.wrap ((BitVec.ofInt IntKind.u64.bits ((a * 2 ^ 32 : Nat) : Int) ||| BitVec.ofInt IntKind.u64.bits ((b : Nat) : Int)).toNat : Int) = ((a * 4294967296 + b : Nat) : Int) := by
  have h := or_shift IntKind.u64.bits a b 32 (by omega) (show a * 2 ^ 32 + b < 2 ^ 64 by omega)
  rw [h, w_u64 (by omega) (by omega)]
theorem o64b {a b : Nat} (ha : a < 72057594037927936) (hb : b < 256) : IntKind.u64.wrap ((BitVec.ofInt IntKind.u64.bits ((a * 2 ^ 8 : Nat) : Int) ||| BitVec.ofInt IntKind.u64.bits ((b : Nat) : Int)).toNat : Int) = ((a * 256 + b : Nat) : Int) := by
  have h := or_shift IntKind.u64.bits a b 8 (by omega) (show a * 2 ^ 8 + b < 2 ^ 64 by omega)
  rw [h, w_u64 (by omega) (by omega)]

/-- A function that has written nothing and laid nothing. -/
theorem Mem.same_of {w0 w : World} {mm : MM} (h : Mem w0 (fun _ => False) w0.heap.size mm w) : Same w0 w := by
  refine ⟨?_, h.eff.os, h.eff.tape, h.eff.output⟩
  apply Array.ext h.size
  intro i h1 h2
  have := h.eff.block i h2 (fun h => h)
  rw [Array.getElem?_eq_getElem h1, Array.getElem?_eq_getElem h2] at this
  exact Option.some.inj this

def AOk : FM → List Value → Prop
  | [], _ => True
  | (t, v) :: r, as => as[t]? = some v ∧ AOk r as
theorem AOk.get {fs : FM} {as : List Value} (h : AOk fs as) : ∀ t v, fs.get t = some v → as[t]? = some v := by
  induction fs with
  | nil => intro t v ht; simp [FM.get] at ht
  | cons p r ih =>
    obtain ⟨s, u⟩ := p
    intro t v ht
    rw [FM.get_cons] at ht
    by_cases hs : s = t
    · subst hs; rw [if_pos rfl] at ht; cases ht; exact h.1
    · rw [if_neg hs] at ht; exact ih h.2 t v ht
def HasL : MM → World → Prop
  | [], _ => True
  | (b, o) :: r, w => w.heap[b]? = some o ∧ HasL r w
theorem HasL.has {ms : MM} {w : World} (h : HasL ms w) : Has ms w := by
  induction ms with
  | nil => intro p hp; cases hp
  | cons q r ih =>
    intro p hp
    rcases List.mem_cons.1 hp with rfl | hp
    · exact h.1
    · exact ih h.2 p hp
abbrev E0 : Nat → Prop := fun _ => False

/-- A function's own frame at its entry, its arguments and what is known of memory. -/
theorem begins {f : FuncId} {fn : Func} {c : Code} {args : List Value} {n : Nat} {w : World} {R : Ending → World → Prop} (E : Nat → Prop) (hf : P.funcs[f]? = some fn) (hb : fn.body = some c) (hn : fn.ntmps = n) (hl : Nat.ble args.length n = true)
    (fs : FM) (hfs : AOk fs args) (ms : MM) (hh : HasL ms w) (hnd : (ms.map Prod.fst).Nodup) (h : Sc P c (bodyPost P fn R) n w E fs w.heap.size ms) : Calls P f args.toArray w R :=
  enter hf hb hn (Nat.le_of_ble_eq_true hl) fs hfs.get ms hh.has hnd h

/-! ## Tests that are decided, or parted on -/

theorem q_decT {o : Oper} {p : Prop} [Decidable p] (h : Quiet P fm mm o (.bool (decide p))) (hp : p) : Quiet P fm mm o (.bool true) := by rwa [decide_eq_true hp] at h
theorem q_decF {o : Oper} {p : Prop} [Decidable p] (h : Quiet P fm mm o (.bool (decide p))) (hp : ¬ p) : Quiet P fm mm o (.bool false) := by rwa [decide_eq_false hp] at h
theorem q_beqT {o : Oper} {b : Bool} (h : Quiet P fm mm o (.bool b)) (hp : b = true) : Quiet P fm mm o (.bool true) := hp ▸ h
theorem q_beqF {o : Oper} {b : Bool} (h : Quiet P fm mm o (.bool b)) (hp : b = false) : Quiet P fm mm o (.bool false) := hp ▸ h

section
variable {ops : Array Oper} {Q : Exit → Act → World → Prop} {n : Nat} {w0 : World} {E : Nat → Prop} {N : Nat} {rest : List Oper} {op : Op} {s : Nat} {p : Prop} {b : Bool}
theorem sq_split [Decidable p] (hq : Quiet P fm mm ⟨some s, op, ty, pos, after, none⟩ (.bool (decide p))) (hd : Nat.blt s n = true) (h1 : p → Sq P ops Q n w0 E rest ((s, .bool true) :: fm) N mm) (h2 : ¬ p → Sq P ops Q n w0 E rest ((s, .bool false) :: fm) N mm) :
    Sq P ops Q n w0 E (⟨some s, op, ty, pos, after, none⟩ :: rest) fm N mm := by
  by_cases hp : p
  · exact sq_q (q_decT hq hp) hd (h1 hp)
  · exact sq_q (q_decF hq hp) hd (h2 hp)
theorem sq_splitb (hq : Quiet P fm mm ⟨some s, op, ty, pos, after, none⟩ (.bool b)) (hd : Nat.blt s n = true) (h1 : b = true → Sq P ops Q n w0 E rest ((s, .bool true) :: fm) N mm) (h2 : b = false → Sq P ops Q n w0 E rest ((s, .bool false) :: fm) N mm) :
    Sq P ops Q n w0 E (⟨some s, op, ty, pos, after, none⟩ :: rest) fm N mm := by
  cases hb : b
  · exact sq_q (q_beqF hq hb) hd (h2 hb)
  · exact sq_q (q_beqT hq hb) hd (h1 hb)
end

theorem q_eof_eql {t t2 tp te : TypeId} {ms : Array (String × TypeId)} {i : TypeInfo} {s : Nat} {a : Addr} (hx : fm.ev x = some (.iface tp (.pointer (some a)))) (hy : fm.ev y = some (.iface tp (.pointer (some a))))
    (hu : ∀ w, (underlying t).run P w = .ok (.interface ms) w) (hp : ∀ w, (underlying tp).run P w = .ok (.pointer te) w) (hs : ∀ w, (sizeOf te).run P w = .ok (s + 1) w) (hi : ∀ w, (typeInfo tp).run P w = .ok i w) (hc : i.comparable = true) :
    Quiet P fm mm ⟨d, .binOp .eql t x y t2, ty, pos, after, g⟩ (.bool true) := q_iface_eql_same hx hy hu hp hs hi hc

theorem q_nili {t : TypeId} {u : Value} (hx : fm.ev x = some (.iface t u)) : Quiet P fm mm ⟨d, .nilCheck x, ty, pos, after, g⟩ (.iface t u) := q_run fun ρ hρ w _ => by simp [execOp, hρ _ _ hx]

/-! ## A loop, round by round -/

/-- At the head of a round. -/
def LoopAt (P : Program) (c : Code) (Q : Exit → Act → World → Prop) (a : Act) (w : World) : Prop :=
  ∀ (b : Frame) (k : List Item) (cs : List Frame), ∃ e a' w', Q e a' w' ∧ Arrives P (lone (b.at a (.code c :: .inLoop c :: k)) cs w) b k cs e a' w'

section
variable {Q : Exit → Act → World → Prop} {n : Nat} {w0 : World} {E : Nat → Prop} {N : Nat} {c : Code}
def Sl (P : Program) (c : Code) (Q : Exit → Act → World → Prop) (n : Nat) (w0 : World) (E : Nat → Prop) (fm : FM) (N : Nat) (mm : MM) : Prop := ∀ a w, Agree n fm a → Mem w0 E N mm w → LoopAt P c Q a w
theorem sc_rounds (h : Sl P c Q n w0 E fm N mm) : Sc P (.loop c) Q n w0 E fm N mm := fun a w ha hw b k cs =>
  let ⟨e, a', w', hq, harr⟩ := h a w ha hw b k cs
  ⟨e, a', w', hq, .of_steps (.one step_loop) harr⟩
theorem sl_round (h : Sc P c (Exit.then (LoopAt P c Q) Q) n w0 E fm N mm) : Sl P c Q n w0 E fm N mm := fun a w ha hw b k cs => by
  obtain ⟨e, a₁, w₁, hq, harr⟩ := h a w ha hw b (.inLoop c :: k) cs
  cases e with
  | normal =>
    obtain ⟨e₂, a₂, w₂, hq₂, harr₂⟩ := hq b k cs
    exact ⟨e₂, a₂, w₂, hq₂, .of_steps (Steps.trans harr (.one step_inLoop)) harr₂⟩
  | exit id => exact ⟨_, a₁, w₁, hq, .pass (x := .inLoop c) rfl (fun _ _ => .inl (by simp)) harr⟩
  | goto l => exact ⟨_, a₁, w₁, hq, .pass (x := .inLoop c) rfl (fun _ _ => .inl (by simp)) harr⟩
  | ret => exact ⟨_, a₁, w₁, hq, .pass (x := .inLoop c) rfl (fun _ _ => .inl (by simp)) harr⟩
  | panic ch => exact ⟨_, a₁, w₁, hq, .pass (x := .inLoop c) rfl (fun _ _ => .inl (by simp)) harr⟩
  | outgrown => exact ⟨_, a₁, w₁, hq, .pass (x := .inLoop c) rfl (fun _ _ => .inl (by simp)) harr⟩
theorem se_again (h : Sl P c Q n w0 E fm N mm) : Se (Exit.then (LoopAt P c Q) Q) .normal n w0 E fm N mm := h
theorem sl_sub {fs : FM} (hs : FM.Sub fs fm) (h : Sl P c Q n w0 E fs N mm) : Sl P c Q n w0 E fm N mm := fun a w ha hw => h a w (ha.sub hs) hw
end

/-! ## A world that has stayed -/

theorem Mem.same_mm {w0 w : World} {E : Nat → Prop} {mm : MM} (h : Mem w0 E w0.heap.size mm w) (hE : ∀ k, E k → ∃ o, (k, o) ∈ mm ∧ w0.heap[k]? = some o) : Same w0 w := by
  refine ⟨?_, h.eff.os, h.eff.tape, h.eff.output⟩
  apply Array.ext h.size
  intro i h1 h2
  have : w.heap[i]? = w0.heap[i]? := by
    by_cases hi : E i
    · obtain ⟨o, ho, hw⟩ := hE i hi
      rw [hw]; exact h.has _ ho
    · exact h.eff.block i h2 hi
  rw [Array.getElem?_eq_getElem h1, Array.getElem?_eq_getElem h2] at this
  exact Option.some.inj this

/-- A function that has written one block alone and laid nothing. -/
theorem Mem.upd_of {w0 w : World} {b : Nat} {o : Obj} {mm : MM} (h : Mem w0 (fun k => k = b) w0.heap.size mm w) (hm : (b, o) ∈ mm) : Upd w0 w b o :=
  ⟨h.eff.os, h.eff.tape, h.eff.output, h.size, h.has _ hm, fun k hk => by
    by_cases hlt : k < w0.heap.size
    · exact h.eff.block k hlt hk
    · rw [Array.getElem?_eq_none (by rw [h.size]; omega), Array.getElem?_eq_none (by omega)]⟩

theorem Upd.trans_same {w w1 w2 : World} {b : Nat} {o : Obj} (h : Upd w w1 b o) (hs : Same w1 w2) : Upd w w2 b o :=
  ⟨hs.2.1.trans h.os, hs.2.2.1.trans h.tape, hs.2.2.2.trans h.output, by rw [hs.1]; exact h.size, by rw [hs.1]; exact h.here, fun k hk => by rw [hs.1]; exact h.block k hk⟩
theorem Upd.of_same {w w1 : World} {b : Nat} {o : Obj} (hs : Same w w1) (h : w.heap[b]? = some o) : Upd w w1 b o :=
  ⟨hs.2.1, hs.2.2.1, hs.2.2.2, by rw [hs.1], by rw [hs.1]; exact h, fun k _ => by rw [hs.1]⟩
theorem Same.upd {w w1 w2 : World} {b : Nat} {o : Obj} (hs : Same w w1) (h : Upd w1 w2 b o) : Upd w w2 b o :=
  ⟨h.os.trans hs.2.1, h.tape.trans hs.2.2.1, h.output.trans hs.2.2.2, by rw [h.size, hs.1], h.here, fun k hk => by rw [h.block k hk, hs.1]⟩
theorem Upd.eff {w w1 : World} {b : Nat} {o : Obj} (h : Upd w w1 b o) : Eff (fun k => k = b) w w1 := ⟨h.os, h.tape, h.output, by rw [h.size]; exact Nat.le_refl _, fun k _ hk => h.block k hk⟩

end Go.Sx
namespace Go.Sx
section
variable {P : Program} {ops : Array Oper} {Q : Exit → Act → World → Prop} {n : Nat} {w0 : World} {E : Nat → Prop} {fm fs : FM} {N : Nat} {mm : MM} {rest : List Oper}
variable {d : Nat} {ty : TypeId} {pos : String} {after : Array Edge} {v : Value} {x y z : Operand} {c e : Code}
/-- Some slots of a frame. -/
def FM.keepK {β : Type} : List Nat → FM → (FM → Option β) → Option β
  | [], _, k => k []
  | t :: ts, fm, k => match fm.get t with
    | some v => FM.keepK ts fm fun r => k ((t, v) :: r)
    | none => none
theorem FM.keepK_eq {β : Type} {fm : FM} {z : β} : ∀ {ts : List Nat} {k : FM → Option β}, FM.keepK ts fm k = some z → ∃ r, FM.Sub r fm ∧ k r = some z
  | [], _, h => ⟨[], trivial, h⟩
  | t :: ts, k, h => by
    unfold FM.keepK at h
    split at h
    · rename_i v hv
      obtain ⟨r, h1, h2⟩ := FM.keepK_eq h
      exact ⟨(t, v) :: r, ⟨hv, h1⟩, h2⟩
    · cases h
theorem FM.keepK_sub {ts : List Nat} (h : FM.keepK ts fm some = some fs) : FM.Sub fs fm := by
  obtain ⟨r, h1, h2⟩ := FM.keepK_eq h
  cases h2; exact h1
theorem scK (ts : List Nat) (h : FM.keepK ts fm some = some fs) (hc : Sc P c Q n w0 E fs N mm) : Sc P c Q n w0 E fm N mm := sc_sub (FM.keepK_sub h) hc
theorem slK (ts : List Nat) (h : FM.keepK ts fm some = some fs) (hc : Sl P c Q n w0 E fs N mm) : Sl P c Q n w0 E fm N mm := sl_sub (FM.keepK_sub h) hc
theorem sqM (hx : fm.ev x = some v) (hd : Nat.blt d n = true) (h : Sq P ops Q n w0 E rest ((d, v) :: fm) N mm) : Sq P ops Q n w0 E (⟨some d, .move x, ty, pos, after, none⟩ :: rest) fm N mm := sq_q (q_move hx) hd h
theorem sqA (hx : fm.ev x = some v) (hd : Nat.blt d n = true) (h : Sq P ops Q n w0 E rest ((d, v) :: fm) N mm) : Sq P ops Q n w0 E (⟨some d, .assign x, ty, pos, after, none⟩ :: rest) fm N mm := sq_q (q_assign hx) hd h
theorem sqT (hx : fm.ev x = some (.bool true)) (hy : fm.ev y = some v) (hd : Nat.blt d n = true) (h : Sq P ops Q n w0 E rest ((d, v) :: fm) N mm) : Sq P ops Q n w0 E (⟨some d, .pick x y z, ty, pos, after, none⟩ :: rest) fm N mm := sq_q (q_pick_t hx hy) hd h
theorem sqF (hx : fm.ev x = some (.bool false)) (hz : fm.ev z = some v) (hd : Nat.blt d n = true) (h : Sq P ops Q n w0 E rest ((d, v) :: fm) N mm) : Sq P ops Q n w0 E (⟨some d, .pick x y z, ty, pos, after, none⟩ :: rest) fm N mm := sq_q (q_pick_f hx hz) hd h
theorem sqZ (h : Sc P c Q n w0 E fm N mm) : Sq P ops (Exit.then (c.wp P Q) Q) n w0 E [] fm N mm := sq_nil (se_seq h)
theorem scR {id : Nat} {l : List Oper} (h : Sq P l.toArray (Exit.then (c.wp P Q) Q) n w0 E l fm N mm) : Sc P (.seq (.region id l.toArray false) c) Q n w0 E fm N mm := sc_seq (sc_region h)
theorem scS (h : Sc P c Q n w0 E fm N mm) : Sc P .skip (Exit.then (c.wp P Q) Q) n w0 E fm N mm := sc_skip (se_seq h)
theorem sqK (ts : List Nat) (h : FM.keepK ts fm some = some fs) (hc : Sc P c Q n w0 E fs N mm) : Sq P ops (Exit.then (c.wp P Q) Q) n w0 E [] fm N mm := sqZ (scK ts h hc)
theorem sqKR {id : Nat} {l : List Oper} (ts : List Nat) (h : FM.keepK ts fm some = some fs) (hq : Sq P l.toArray (Exit.then (c.wp P Q) Q) n w0 E l fs N mm) : Sq P ops (Exit.then ((Code.seq (.region id l.toArray false) c).wp P Q) Q) n w0 E [] fm N mm := sqK ts h (scR hq)
variable {ms : List Nat} {mp : MM} {K : FM → (World → Prop) → Prop} {r : List Nat} {i : Nat} {M : World → Prop}
theorem drM (ho : ops[i]? = some ⟨some d, .move x, ty, pos, after, none⟩) (hi : ms.contains i = false) (hx : fm.ev x = some v) (h : Dr P ops ms mp K r ((d, v) :: fm) M) : Dr P ops ms mp K (i :: r) fm M := dr_q ho hi (q_move hx) h
theorem drA (ho : ops[i]? = some ⟨some d, .assign x, ty, pos, after, none⟩) (hi : ms.contains i = false) (hx : fm.ev x = some v) (h : Dr P ops ms mp K r ((d, v) :: fm) M) : Dr P ops ms mp K (i :: r) fm M := dr_q ho hi (q_assign hx) h
end
end Go.Sx
