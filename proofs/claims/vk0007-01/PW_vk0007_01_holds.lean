import PyProof.Rows.All
import Wide.All
import OpenK.AllK
import Wide.FinOn
import PySem.Challenge.RW_vk0007_01
set_option Elab.async false
section
open PySem PySem.W PyProof.Rows
set_option maxRecDepth 100000
set_option maxHeartbeats 8000000
namespace Mine
open_top hd for PySem.Challenge.rw_vk0007_01
end Mine
end

open PySem PySem.W PyProof.Rows in
example : True := by
  w_top off
  trivial
open PySem PySem.W PyProof.Rows in
example {M : Model} {A : Around} {E : Value → Shared → Prop} {s : Shared} {Q : Unit → Shared → Prop} (h : Q () s) : wpAny M A (pure ()) Q E s := by
  first
    | (walk1; exact h)
    | exact wpAny_pure h
section
namespace Mine
-- BODY
/-- where r is to lie -/
def bis (ds : List Nat) (r : Nat) : Nat := ds.countP (· < r)
theorem bis_nil (r : Nat) : bis [] r = 0 := rfl
theorem bis_cons (d : Nat) (ds : List Nat) (r : Nat) : bis (d :: ds) r = bis ds r + if d < r then 1 else 0 := by
  unfold bis
  rw [List.countP_cons]; simp
theorem bis_le (ds : List Nat) (r : Nat) : bis ds r ≤ ds.length := List.countP_le_length
theorem bis_zero {ds : List Nat} {r : Nat} (h : ∀ x ∈ ds, r ≤ x) : bis ds r = 0 := List.countP_eq_zero.mpr fun a ha => by
  have := h a ha
  simp; omega
theorem bis_is {ds : List Nat} {r k : Nat} (hk : k ≤ ds.length) (h1 : ∀ i d, i < k → ds[i]? = some d → d < r) (h2 : ∀ i d, k ≤ i → ds[i]? = some d → ¬ d < r) : bis ds r = k := by
  have e : ds = ds.take k ++ ds.drop k := (List.take_append_drop k ds).symm
  unfold bis
  rw [e, List.countP_append]
  have a1 : (ds.take k).countP (· < r) = (ds.take k).length := List.countP_eq_length.mpr fun a ha => by
    obtain ⟨i, hi⟩ := List.mem_iff_getElem?.mp ha
    have hik : i < k := by
      have := (List.getElem?_eq_some_iff.mp hi).1
      simp at this; omega
    rw [List.getElem?_take, if_pos hik] at hi
    simpa using h1 i a hik hi
  have a2 : (ds.drop k).countP (· < r) = 0 := List.countP_eq_zero.mpr fun a ha => by
    obtain ⟨i, hi⟩ := List.mem_iff_getElem?.mp ha
    rw [List.getElem?_drop] at hi
    simpa using h2 (k + i) a (Nat.le_add_right _ _) hi
  rw [a1, a2, List.length_take, Nat.add_zero, Nat.min_eq_left hk]
theorem sorted_lt {ds : List Nat} (hs : ds.Pairwise (· < ·)) {i j a b : Nat} (hi : ds[i]? = some a) (hj : ds[j]? = some b) (h : i < j) : a < b := by
  obtain ⟨h1, rfl⟩ := List.getElem?_eq_some_iff.mp hi
  obtain ⟨h2, rfl⟩ := List.getElem?_eq_some_iff.mp hj
  exact List.pairwise_iff_getElem.mp hs i j h1 h2 h
/-- r told in, in its place, once -/
def ins (ds : List Nat) (r : Nat) : List Nat := if ds.contains r then ds else ds.take (bis ds r) ++ r :: ds.drop (bis ds r)

theorem bis_end {ds : List Nat} {r : Nat} (h : bis ds r = ds.length) : ds.contains r = false := by
  have := List.countP_eq_length.mp h
  rw [Bool.eq_false_iff]
  intro q
  have := this r (by simpa using q)
  simp at this
theorem bis_mid {ds : List Nat} {r : Nat} (hs : ds.Pairwise (· < ·)) : ∀ {d : Nat}, ds[bis ds r]? = some d → ds.contains r = (d == r) := by
  induction ds with
  | nil => intro d h; simp at h
  | cons a t ih =>
    intro d h
    obtain ⟨ha, ht⟩ := List.pairwise_cons.mp hs
    rw [bis_cons] at h
    by_cases q : a < r
    · rw [if_pos q] at h
      rw [List.getElem?_cons_succ] at h
      rw [List.contains_cons, ih ht h]
      have : (r == a) = false := by simp; omega
      rw [this, Bool.false_or]
    · rw [if_neg q, bis_zero (fun x hx => by have := ha x hx; omega)] at h
      simp at h
      subst h
      rw [List.contains_cons]
      have : t.contains r = false := by
        rw [Bool.eq_false_iff]
        intro z
        have := ha r (by simpa using z)
        omega
      rw [this, Bool.or_false, Bool.eq_iff_iff]
      simp only [beq_iff_eq]
      exact eq_comm
theorem ins_mem {ds : List Nat} {r x : Nat} : x ∈ ins ds r ↔ x ∈ ds ∨ x = r := by
  unfold ins
  split
  · rename_i h
    constructor
    · exact fun q => .inl q
    · rintro (q | rfl)
      · exact q
      · simpa using h
  · rw [List.mem_append, List.mem_cons]
    have e : x ∈ ds ↔ x ∈ ds.take (bis ds r) ∨ x ∈ ds.drop (bis ds r) := by
      rw [← List.mem_append, List.take_append_drop]
    rw [e]
    constructor
    · rintro (q | q | q)
      · exact .inl (.inl q)
      · exact .inr q
      · exact .inl (.inr q)
    · rintro ((q | q) | q)
      · exact .inl q
      · exact .inr (.inr q)
      · exact .inr (.inl q)
theorem bis_before {ds : List Nat} {r : Nat} (hs : ds.Pairwise (· < ·)) : (∀ x ∈ ds.take (bis ds r), x < r) ∧ ∀ x ∈ ds.drop (bis ds r), r ≤ x := by
  induction ds with
  | nil => simp [bis_nil]
  | cons a t ih =>
    obtain ⟨ha, ht⟩ := List.pairwise_cons.mp hs
    rw [bis_cons]
    by_cases q : a < r
    · rw [if_pos q]
      obtain ⟨i1, i2⟩ := ih ht
      refine ⟨fun x hx => ?_, fun x hx => i2 x (by simpa using hx)⟩
      rw [List.take_succ_cons] at hx
      rcases List.mem_cons.mp hx with rfl | hx
      · exact q
      · exact i1 x hx
    · rw [if_neg q, bis_zero (fun x hx => by have := ha x hx; omega)]
      refine ⟨fun x hx => (by simp at hx), fun x hx => ?_⟩
      simp at hx
      rcases hx with rfl | hx
      · omega
      · have := ha x hx; omega
theorem ins_sorted {ds : List Nat} {r : Nat} (hs : ds.Pairwise (· < ·)) : (ins ds r).Pairwise (· < ·) := by
  unfold ins
  split
  · exact hs
  · rename_i h
    obtain ⟨i1, i2⟩ := bis_before (r := r) hs
    have e : (ds.take (bis ds r) ++ ds.drop (bis ds r)).Pairwise (· < ·) := by rw [List.take_append_drop]; exact hs
    obtain ⟨e1, e2, e3⟩ := List.pairwise_append.mp e
    refine List.pairwise_append.mpr ⟨e1, List.pairwise_cons.mpr ⟨fun x hx => ?_, e2⟩, fun x hx y hy => ?_⟩
    · have := i2 x hx
      have hne : x ≠ r := fun q => h (by
        have := List.mem_of_mem_drop hx
        rw [q] at this
        simpa using this)
      omega
    · rcases List.mem_cons.mp hy with rfl | hy
      · exact i1 x hx
      · exact e3 x hx y hy
theorem ins_len (ds : List Nat) (r : Nat) : (ins ds r).length ≤ ds.length + 1 := by
  unfold ins
  split
  · omega
  · have := bis_le ds r
    simp; omega
/-- a sorted list without repeats is what its members are -/
theorem sorted_ext {a b : List Nat} (ha : a.Pairwise (· < ·)) (hb : b.Pairwise (· < ·)) (h : ∀ x, x ∈ a ↔ x ∈ b) : a = b := by
  induction a generalizing b with
  | nil =>
    cases b with
    | nil => rfl
    | cons y b => exact absurd ((h y).mpr (.head _)) (List.not_mem_nil)
  | cons x a ih =>
    cases b with
    | nil => exact absurd ((h x).mp (.head _)) (List.not_mem_nil)
    | cons y b =>
      obtain ⟨h1, h2⟩ := List.pairwise_cons.mp ha
      obtain ⟨h3, h4⟩ := List.pairwise_cons.mp hb
      have e : x = y := by
        rcases List.mem_cons.mp ((h x).mp (.head _)) with q | q
        · exact q
        · rcases List.mem_cons.mp ((h y).mpr (.head _)) with z | z
          · exact z.symm
          · have := h1 y z; have := h3 x q; omega
      subst e
      rw [ih h2 h4 fun z => ?_]
      constructor
      · intro q
        rcases List.mem_cons.mp ((h z).mp (.tail _ q)) with w | w
        · subst w; have := h1 z q; omega
        · exact w
      · intro q
        rcases List.mem_cons.mp ((h z).mpr (.tail _ q)) with w | w
        · subst w; have := h3 z q; omega
        · exact w
theorem insAll_mem {rs : List Nat} : ∀ {ds : List Nat} {x : Nat}, x ∈ rs.foldl ins ds ↔ x ∈ ds ∨ x ∈ rs := by
  induction rs with
  | nil => intro ds x; simp
  | cons r rs ih =>
    intro ds x
    rw [List.foldl_cons, ih, ins_mem, List.mem_cons]
    constructor
    · rintro ((q | q) | q)
      · exact .inl q
      · exact .inr (.inl q)
      · exact .inr (.inr q)
    · rintro (q | q | q)
      · exact .inl (.inl q)
      · exact .inl (.inr q)
      · exact .inr q
theorem insAll_sorted {rs : List Nat} : ∀ {ds : List Nat}, ds.Pairwise (· < ·) → (rs.foldl ins ds).Pairwise (· < ·) := by
  induction rs with
  | nil => intro ds h; exact h
  | cons r rs ih => intro ds h; exact ih (ins_sorted h)
theorem insAll_len {rs : List Nat} : ∀ {ds : List Nat}, (rs.foldl ins ds).length ≤ ds.length + rs.length := by
  induction rs with
  | nil => intro ds; simp
  | cons r rs ih =>
    intro ds
    rw [List.foldl_cons, List.length_cons]
    have := @ih (ins ds r)
    have := ins_len ds r
    omega
theorem foldl_snoc {α β : Type} (f : β → α → β) (l : List α) (b : β) {i : Nat} {a : α} (h : l[i]? = some a) : (l.take (i + 1)).foldl f b = f ((l.take i).foldl f b) a := by
  rw [List.take_add_one, h]; simp
theorem bool_ext {a b : Bool} (h : a = true ↔ b = true) : a = b := by rw [Bool.eq_iff_iff]; exact h
theorem insAll_contains (rs : List Nat) (r : Nat) : (rs.foldl ins []).contains r = rs.contains r := bool_ext (by
  rw [List.contains_iff_mem, List.contains_iff_mem, insAll_mem]; simp)
theorem insAll_self {ds : List Nat} (hs : ds.Pairwise (· < ·)) : ds.foldl ins [] = ds := sorted_ext (insAll_sorted .nil) hs fun x => by rw [insAll_mem]; simp
theorem insAll_filter {ds : List Nat} (p : Nat → Bool) (hs : ds.Pairwise (· < ·)) : (ds.filter p).foldl ins [] = ds.filter p := insAll_self (hs.filter _)
theorem insAll_insAll (rs ds : List Nat) (hs : ds.Pairwise (· < ·)) : (rs.foldl ins []).foldl ins ds = rs.foldl ins ds := sorted_ext (insAll_sorted hs) (insAll_sorted hs) fun x => by rw [insAll_mem, insAll_mem, insAll_mem]; simp
theorem filter_snoc {p : Nat → Bool} {l : List Nat} {i a : Nat} (h : l[i]? = some a) : ((l.take (i + 1)).filter p).foldl ins [] = if p a then ins (((l.take i).filter p).foldl ins []) a else ((l.take i).filter p).foldl ins [] := by
  rw [List.take_add_one, h, List.filter_append]
  by_cases q : p a = true
  · simp [q]
  · simp [q]
theorem filter_rows {rows : List (List Nat)} {ds : List Nat} {q : List Nat → Nat → Bool} {i : Nat} {row : List Nat} (h : rows[i]? = some row) :
    ds.filter (fun d => (rows.take (i + 1)).all fun r => q r d) = (ds.filter fun d => (rows.take i).all fun r => q r d).filter fun d => q row d := by
  rw [List.filter_filter]
  congr 1
  funext d
  rw [List.take_add_one, h]
  simp [Bool.and_comm]
theorem filter_rows_nil {rows : List (List Nat)} {ds : List Nat} {q : List Nat → Nat → Bool} {i : Nat} (h : (ds.filter fun d => (rows.take i).all fun r => q r d) = []) :
    (ds.filter fun d => rows.all fun r => q r d) = [] := by
  rw [List.filter_eq_nil_iff] at h ⊢
  intro d hd hq
  refine h d hd ?_
  rw [List.all_eq_true] at hq ⊢
  exact fun r hr => hq r (List.mem_of_mem_take hr)
theorem filter_rows_zero {rows : List (List Nat)} {ds : List Nat} {q : List Nat → Nat → Bool} : ds.filter (fun d => (rows.take 0).all fun r => q r d) = ds := List.filter_eq_self.mpr fun _ _ => rfl
theorem sorted_ge {ds : List Nat} (hs : ds.Pairwise (· < ·)) : ∀ (i a : Nat), ds[i]? = some a → i ≤ a := by
  intro i
  induction i with
  | zero => intro a _; exact Nat.zero_le _
  | succ i ih =>
    intro a h
    have hi : i < ds.length := by have := (List.getElem?_eq_some_iff.mp h).1; omega
    have h1 : ds[i]? = some ds[i] := List.getElem?_eq_getElem hi
    have := ih _ h1
    have := sorted_lt hs h1 h (Nat.lt_succ_self _)
    omega
theorem sorted_len9 {ds : List Nat} (hs : ds.Pairwise (· < ·)) (h9 : ∀ x ∈ ds, x < 9) : ds.length ≤ 9 := by
  cases hn : ds.length with
  | zero => omega
  | succ n =>
    have hi : n < ds.length := by omega
    have h1 : ds[n]? = some ds[n] := List.getElem?_eq_getElem hi
    have := sorted_ge hs n _ h1
    have := h9 _ (List.getElem_mem hi)
    omega
theorem insAll_congr {rs rs' ds : List Nat} (hs : ds.Pairwise (· < ·)) (h : ∀ r, rs'.contains r = rs.contains r) : rs'.foldl ins ds = rs.foldl ins ds := sorted_ext (insAll_sorted hs) (insAll_sorted hs) fun x => by
  have e : x ∈ rs' ↔ x ∈ rs := by
    have := h x
    rw [← List.contains_iff_mem, this, List.contains_iff_mem]
  rw [insAll_mem, insAll_mem, e]
theorem flat_snoc {rows : List (List Nat)} {ds : List Nat} {i : Nat} {row : List Nat} (h : rows[i]? = some row) : (rows.take (i + 1)).flatten.foldl ins ds = row.foldl ins ((rows.take i).flatten.foldl ins ds) := by
  rw [List.take_add_one, h]; simp [List.flatten_append, List.foldl_append]
theorem filter_none_iff {ds : List Nat} {q : Nat → Bool} : (ds.filter fun d => !q d) = [] ↔ (ds.filter fun d => q d).length = ds.length := by
  rw [List.filter_eq_nil_iff, List.length_filter_eq_length_iff]
  simp
end Mine

end

open PySem PySem.W PyProof.Rows in
example : True := by
  w_top off
  trivial
open PySem PySem.W PyProof.Rows in
example {M : Model} {A : Around} {E : Value → Shared → Prop} {s : Shared} {Q : Unit → Shared → Prop} (h : Q () s) : wpAny M A (pure ()) Q E s := by
  first
    | (walk1; exact h)
    | exact wpAny_pure h
section
open PySem PySem.W PyProof.Rows PySem.Calls
set_option Elab.async false
set_option maxRecDepth 100000
namespace Mine

theorem filled : PySem.Challenge.rw_vk0007_01 = PySem.Challenge.rw_vk0007_01 ∧ hd.heap_39 = hd.heap_39 := by
  k_fill
  exact ⟨rfl, rfl⟩

/-- what stands under all the law's call: the text's own objects, as they are at its call -/
structure Gr (w : World) (mg mb : Str → Option Value) (B : Heap) : Prop where
  K : (hd.heap_39 w.params).In B
  T : TopRead hd.view_39 (looseW hd.view_39 [Str.ofString "SortedSet", Str.ofString "sortedset"]) mg mb B

theorem Gr.keeps {w : World} {mg mb : Str → Option Value} {B h : Heap} (G : Gr w mg mb B) (k : Heap.StaysIn B h) : Gr w mg mb h := ⟨G.K.keeps k, G.T.keeps k⟩

/-- room for k calls, one within the other; no exception is being handled -/
structure Rm (A : Around) (k : Nat) : Prop where
  hh : A.handled = none
  d : A.depth + 4 * k < recursionLimit
  u : A.units + 40 * k < cLine
theorem Rm.room {A : Around} {k : Nat} (R : Rm A k) : A.depth < recursionLimit := Nat.lt_of_le_of_lt (Nat.le_add_right _ _) R.d
theorem Rm.units {A : Around} {k : Nat} (R : Rm A k) : A.units < cLine := Nat.lt_of_le_of_lt (Nat.le_add_right _ _) R.u
theorem Rm.deeper {A : Around} {k : Nat} (R : Rm A (k + 1)) (env : Env) : Rm (A.deeper env) k := ⟨R.hh, by
  have := R.d
  show A.depth + 1 + 4 * k < recursionLimit
  omega, by
  have := R.u
  show A.units + 3 + 40 * k < cLine
  omega⟩
theorem Rm.in1 {A : Around} {k : Nat} (R : Rm A (k + 1)) : Rm A.in1 k := ⟨R.hh, by
  have := R.d
  show A.depth + 4 * k < recursionLimit
  omega, by
  have := R.u
  show A.units + 1 + 40 * k < cLine
  omega⟩
theorem Rm.make {A : Around} {k : Nat} (R : Rm A (k + 1)) (C : Addr) (vals : List Value) : Rm (A.under (.builtin "type.__call__" ⟨.ref C :: vals, []⟩)) k := ⟨R.hh, by
  have := R.d
  show A.depth + 1 + 4 * k < recursionLimit
  omega, by
  have := R.u
  show A.units + 1 + 40 * k < cLine
  omega⟩
theorem Rm.less {A : Around} {k j : Nat} (R : Rm A k) (h : j ≤ k) : Rm A j := ⟨R.hh, by have := R.d; omega, by have := R.u; omega⟩

/-- every object off W stays -/
def Off (W : List Addr) (h h' : Heap) : Prop := ∀ b o, b ∉ W → h.get? b = some o → h'.get? b = some o
theorem Off.of_stays {W : List Addr} {h h' : Heap} (k : Heap.StaysIn h h') : Off W h h' := fun b o _ e => k b o e
theorem Off.trans {W : List Addr} {h h' h'' : Heap} (a : Off W h h') (b : Off W h' h'') : Off W h h'' := fun x o n e => b x o n (a x o n e)
theorem Off.nil {h h' : Heap} (a : Off [] h h') : Heap.StaysIn h h' := fun b o e => a b o (List.not_mem_nil) e

theorem off_same {h h' : Heap} {l : Addr} (k : Heap.SameBut l h h') : Off [l] h h' := fun b o n e => (k.2 b (fun q => n (q ▸ List.mem_singleton_self _))).trans e
theorem none_of_ge {B h : Heap} (k : Heap.StaysIn B h) {a : Nat} (ha : h.objs.size ≤ a) : B.get? a = none := by
  cases q : B.get? a with
  | none => rfl
  | some o => exact absurd (Heap.lt_size (k a o q)) (Nat.not_lt.mpr ha)
theorem none_of {B h : Heap} (k : Heap.StaysIn B h) {a : Addr} (ha : h.get? a = none) : B.get? a = none := by
  cases q : B.get? a with
  | none => rfl
  | some o => rw [k a o q] at ha; cases ha
theorem none_hide {h : Heap} {a b : Addr} (e : (hideAll h [b]).get? a = none) (n : a ≠ b) : h.get? a = none := by
  cases q : h.get? a with
  | none => rfl
  | some o => rw [hideAll_get [b] q (fun w => n (List.mem_singleton.mp w))] at e; cases e
theorem stays_off {g h h' : Heap} {W : List Addr} (kk : Heap.StaysIn g h) (k : Off W h h') (hn : ∀ a ∈ W, g.get? a = none) : Heap.StaysIn g h' := fun b o e => k b o (fun hb => by rw [hn b hb] at e; cases e) (kk b o e)
section
variable {h₀ h h' : Heap} {L : Addr} {m : Str → Option Value} {news : List (Addr × Obj)} {W : List Addr}
theorem up {B : Heap} (F : Fr h₀ L h m) (k : Heap.StaysIn B h₀) : Heap.StaysIn B h := fun b o e => F.keep b o (k b o e)
theorem upL {l : Addr} {vs : Array Value} (F : Fr h₀ L h m) (hl : h₀.IsList l vs) : h.IsList l vs := hl.at fun o e => F.keep l o e
theorem upS {l : Addr} {vs : Array Value} (k : Heap.StaysIn h h') (hl : h.IsList l vs) : h'.IsList l vs := hl.at fun o e => k l o e
theorem fr_off (F : Fr h₀ L h m) (k : Off W h h') (hL : L ∉ W) (h0 : ∀ a ∈ W, h₀.get? a = none) : Fr h₀ L h' m :=
  ⟨F.ns.at' fun o e => k L o hL e, fun b o e => k b o (fun hb => by rw [h0 b hb] at e; cases e) (F.keep b o e), F.above⟩
theorem fr_hide {g : Heap} (F : Fr (hideAll g W) L h m) : Off W g h := fun b o hb e => F.keep b o (hideAll_get W e hb)
theorem stays_hide {B g : Heap} (k : Heap.StaysIn B g) (h0 : ∀ a ∈ W, B.get? a = none) : Heap.StaysIn B (hideAll g W) := fun b o e => hideAll_get W (k b o e) fun hb => by rw [h0 b hb] at e; cases e
theorem fr_off1 {l : Addr} {o : Obj} (F : Fr h₀ L h m) (N : News h₀ L h news) (hm : (l, o) ∈ news) (k : Off [l] h h') : Fr h₀ L h' m :=
  fr_off F k (fun q => (N _ hm).2.1 (List.mem_singleton.mp q).symm) fun a ha => by rw [List.mem_singleton.mp ha]; exact (N _ hm).2.2
theorem news_put {l : Addr} {o o' : Obj} {pre post : List (Addr × Obj)} (N : News h₀ L h (pre ++ (l, o) :: post)) (k : Off [l] h h') (e : h'.get? l = some o') (h1 : ∀ p ∈ pre, p.1 ≠ l) (h2 : ∀ p ∈ post, p.1 ≠ l) :
    News h₀ L h' (pre ++ (l, o') :: post) := fun p hp => by
  rcases List.mem_append.mp hp with q | q
  · have z := N p (List.mem_append_left _ q)
    exact ⟨k _ _ (fun w => h1 p q (List.mem_singleton.mp w)) z.1, z.2⟩
  · rcases List.mem_cons.mp q with rfl | q
    · exact ⟨e, (N (l, o) (List.mem_append_right _ (.head _))).2⟩
    · have z := N p (List.mem_append_right _ (.tail _ q))
      exact ⟨k _ _ (fun w => h2 p q (List.mem_singleton.mp w)) z.1, z.2⟩
theorem news_new {a : Addr} {o : Obj} (F : Fr h₀ L h m) (N : News h₀ L h news) (k : Heap.StaysIn h h') (f : h.get? a = none) (e : h'.get? a = some o) : News h₀ L h' ((a, o) :: news) := fun p hp => by
  rcases List.mem_cons.mp hp with rfl | hp
  · refine ⟨e, fun q => ?_, none_of F.keep f⟩
    obtain ⟨oL, es, ep, hL, _⟩ := F.ns
    change a = L at q
    rw [q, hL] at f; cases f
  · exact N.keeps k p hp
theorem news_off (N : News h₀ L h news) (k : Off W h h') (hW : ∀ p ∈ news, p.1 ∉ W) : News h₀ L h' news := fun p hp => ⟨k _ _ (hW p hp) (N p hp).1, (N p hp).2⟩
end

theorem enterC {w : World} {A : Around} {s : Shared} (W : List (Addr × Obj)) {K : Frag} {R : Result → Shared → Prop}
    {name qual : Str} {params : Arguments} {body : List Stmt} {scope : Scope} {dV kV doc pm cdv ct oc : Value} {an od : Option Addr} {osl : Array (Option Value)} {f : Addr} {args : List Value} (binds : List (Str × Value))
    (X : K.In s.heap) (hlim : s.heap.NoLimit)
    (ho : K.lookup f = some ⟨oc, od, .func (fnOf name qual params body scope dV kV doc pm an cdv ct), osl⟩) (hcd : codeIn K cdv qual = true) (hroom : A.depth < recursionLimit)
    (hbind : BindsTo s (fnOf name qual params body scope dV kV doc pm an cdv ct) ⟨args, []⟩ binds) (hloc : (binds.all fun y => decide (scope.names.lookup y.1 = some .local)) = true)
    (hW : ∀ p ∈ W, s.heap.get? p.1 = some p.2)
    (h : ∀ L' h₁, Fr (hideAll s.heap (W.map (·.1))) L' h₁ (fun y => binds.reverse.lookup y) → News (hideAll s.heap (W.map (·.1))) L' h₁ W →
      wpAny (model PySem.Challenge.rw_vk0007_01.row.prog w) (A.deeper (envOf qual scope L' f cdv)) (execs body (envOf qual scope L' f cdv))
        (fun fl s' => R (.ok (.ret (match fl with | .ret v => v | _ => .none))) s') (fun _ _ => False) { s with heap := h₁, toks := s.toks + binds.length })
    (hcell : ∀ x ∈ scope.names, x.2 ≠ .cell) (hco : scope.isCoroutine = false := by rfl) (hgen : scope.isGenerator = false := by rfl) (hk : scope.kind = .function := by rfl) :
    codeAny (model PySem.Challenge.rw_vk0007_01.row.prog w) A (.call (.ref f) ⟨args, []⟩) R s := by
  refine codeAny_call_def (fd := fnOf name qual params body scope dV kV doc pm an cdv ct) (body := body) (binds := binds) hroom (X _ _ ho) rfl hlim (codeRec_of X hcd) rfl hbind hcell (locs hloc) (fun h₁ hns hk₁ => ?_) hco hgen hk
  have FF : Fr (hideAll s.heap (W.map (·.1))) s.heap.objs.size h₁ (fun y => binds.reverse.lookup y) := ⟨hns, fun b o e => hk₁ b o (of_hideAll _ e), Nat.le_of_eq (hideAll_size _ _)⟩
  have NN : News (hideAll s.heap (W.map (·.1))) s.heap.objs.size h₁ W := fun p hp => ⟨hk₁ _ _ (hW p hp), Nat.ne_of_lt (Heap.lt_size (hW p hp)), hideAll_none _ (List.mem_map_of_mem hp)⟩
  exact wpAny_mono (h _ _ FF NN) (fun _ _ q => q) fun _ _ q => q.elim
theorem enter {w : World} {A : Around} {s : Shared} (W : List (Addr × Obj)) {K : Frag} {Q : Value → Shared → Prop} {E : Value → Shared → Prop}
    {name qual : Str} {params : Arguments} {body : List Stmt} {scope : Scope} {dV kV doc pm cdv ct oc : Value} {an od : Option Addr} {osl : Array (Option Value)} {f : Addr} {args : List Value} (binds : List (Str × Value))
    (X : K.In s.heap) (hlim : s.heap.NoLimit)
    (ho : K.lookup f = some ⟨oc, od, .func (fnOf name qual params body scope dV kV doc pm an cdv ct), osl⟩) (hcd : codeIn K cdv qual = true) (hroom : A.depth < recursionLimit)
    (hbind : BindsTo s (fnOf name qual params body scope dV kV doc pm an cdv ct) ⟨args, []⟩ binds) (hloc : (binds.all fun y => decide (scope.names.lookup y.1 = some .local)) = true)
    (hW : ∀ p ∈ W, s.heap.get? p.1 = some p.2)
    (h : ∀ L' h₁, Fr (hideAll s.heap (W.map (·.1))) L' h₁ (fun y => binds.reverse.lookup y) → News (hideAll s.heap (W.map (·.1))) L' h₁ W →
      wpAny (model PySem.Challenge.rw_vk0007_01.row.prog w) (A.deeper (envOf qual scope L' f cdv)) (execs body (envOf qual scope L' f cdv))
        (fun fl s' => Q (match fl with | .ret v => v | _ => .none) s') (fun _ _ => False) { s with heap := h₁, toks := s.toks + binds.length })
    (hcell : ∀ x ∈ scope.names, x.2 ≠ .cell) (hco : scope.isCoroutine = false := by rfl) (hgen : scope.isGenerator = false := by rfl) (hk : scope.kind = .function := by rfl) :
    wpAny (model PySem.Challenge.rw_vk0007_01.row.prog w) A (call (.ref f) args) Q E s :=
  wpAny_call (enterC W binds X hlim ho hcd hroom hbind hloc hW h hcell hco hgen hk)

theorem enter0 {w : World} {A : Around} {s : Shared} {K : Frag} {Q : Value → Shared → Prop} {E : Value → Shared → Prop}
    {name qual : Str} {params : Arguments} {body : List Stmt} {scope : Scope} {dV kV doc pm cdv ct oc : Value} {an od : Option Addr} {osl : Array (Option Value)} {f : Addr} {args : List Value} (binds : List (Str × Value))
    (X : K.In s.heap) (hlim : s.heap.NoLimit)
    (ho : K.lookup f = some ⟨oc, od, .func (fnOf name qual params body scope dV kV doc pm an cdv ct), osl⟩) (hcd : codeIn K cdv qual = true) (hroom : A.depth < recursionLimit)
    (hbind : BindsTo s (fnOf name qual params body scope dV kV doc pm an cdv ct) ⟨args, []⟩ binds) (hloc : (binds.all fun y => decide (scope.names.lookup y.1 = some .local)) = true)
    (h : ∀ L' h₁, Fr s.heap L' h₁ (fun y => binds.reverse.lookup y) → News s.heap L' h₁ [] →
      wpAny (model PySem.Challenge.rw_vk0007_01.row.prog w) (A.deeper (envOf qual scope L' f cdv)) (execs body (envOf qual scope L' f cdv))
        (fun fl s' => Q (match fl with | .ret v => v | _ => .none) s') (fun _ _ => False) { s with heap := h₁, toks := s.toks + binds.length })
    (hcell : ∀ x ∈ scope.names, x.2 ≠ .cell) (hco : scope.isCoroutine = false := by rfl) (hgen : scope.isGenerator = false := by rfl) (hk : scope.kind = .function := by rfl) :
    wpAny (model PySem.Challenge.rw_vk0007_01.row.prog w) A (call (.ref f) args) Q E s :=
  enter [] binds X hlim ho hcd hroom hbind hloc (fun _ hp => nomatch hp) h hcell hco hgen hk

theorem enter1 {w : World} {A : Around} {s : Shared} {K : Frag} {Q : Value → Shared → Prop} {E : Value → Shared → Prop}
    {name qual : Str} {params : Arguments} {body : List Stmt} {scope : Scope} {dV kV doc pm cdv ct oc : Value} {an od : Option Addr} {osl : Array (Option Value)} {f : Addr} {args : List Value} {b : Addr} {o : Obj} (binds : List (Str × Value))
    (X : K.In s.heap) (hlim : s.heap.NoLimit)
    (ho : K.lookup f = some ⟨oc, od, .func (fnOf name qual params body scope dV kV doc pm an cdv ct), osl⟩) (hcd : codeIn K cdv qual = true) (hroom : A.depth < recursionLimit)
    (hbind : BindsTo s (fnOf name qual params body scope dV kV doc pm an cdv ct) ⟨args, []⟩ binds) (hloc : (binds.all fun y => decide (scope.names.lookup y.1 = some .local)) = true)
    (hW : s.heap.get? b = some o)
    (h : ∀ L' h₁, Fr (hideAll s.heap [b]) L' h₁ (fun y => binds.reverse.lookup y) → News (hideAll s.heap [b]) L' h₁ [(b, o)] →
      wpAny (model PySem.Challenge.rw_vk0007_01.row.prog w) (A.deeper (envOf qual scope L' f cdv)) (execs body (envOf qual scope L' f cdv))
        (fun fl s' => Q (match fl with | .ret v => v | _ => .none) s') (fun _ _ => False) { s with heap := h₁, toks := s.toks + binds.length })
    (hcell : ∀ x ∈ scope.names, x.2 ≠ .cell) (hco : scope.isCoroutine = false := by rfl) (hgen : scope.isGenerator = false := by rfl) (hk : scope.kind = .function := by rfl) :
    wpAny (model PySem.Challenge.rw_vk0007_01.row.prog w) A (call (.ref f) args) Q E s :=
  enter [(b, o)] binds X hlim ho hcd hroom hbind hloc (fun p hp => by cases hp with | head => exact hW | tail _ h => cases h) h hcell hco hgen hk

theorem listAt {h : Heap} {a : Addr} {vs : Array Value} {n : Nat} (e : h.get? a = some (listOf vs n)) : h.IsList a vs := ⟨_, e, rfl, n, rfl⟩

end Mine

end

open PySem PySem.W PyProof.Rows in
example : True := by
  w_top off
  trivial
open PySem PySem.W PyProof.Rows in
example {M : Model} {A : Around} {E : Value → Shared → Prop} {s : Shared} {Q : Unit → Shared → Prop} (h : Q () s) : wpAny M A (pure ()) Q E s := by
  first
    | (walk1; exact h)
    | exact wpAny_pure h
section
open PySem PySem.W PyProof.Rows PySem.Calls
set_option Elab.async false
set_option maxRecDepth 100000
set_option maxHeartbeats 4000000
namespace Mine
-- HEAD
example : PySem.Challenge.rw_vk0007_01 = PySem.Challenge.rw_vk0007_01 ∧ hd.heap_39 = hd.heap_39 := by
  k_fill
  exact ⟨rfl, rfl⟩
-- BODY
section
variable {w : World} {A : Around} {s : Shared} {mg mb : Str → Option Value} {B : Heap} {Q : Value → Shared → Prop} {E : Value → Shared → Prop}

theorem draw_spec {b : Addr} {x n : Int} {t tn : Tok} {ep : Nat}
    (G : Gr w mg mb B) (hB : Heap.StaysIn B s.heap) (R : Rm A 1) (hb : s.heap.get? b = some (listOf #[.int x t] ep)) (hbB : B.get? b = none) (hn : 0 < n) (hn' : n < 1000)
    (h : ∀ h' tk t' t'', Off [b] s.heap h' → h'.get? b = some (listOf #[.int (x / n) t'] ep) → Q (.int (x % n) t'') { s with heap := h', toks := tk }) :
    wpAny (model PySem.Challenge.rw_vk0007_01.row.prog w) A (call (.ref 324) [.ref b, .int n tn]) Q E s := by
  refine enter1 [("bag", .ref b), ("n", .int n tn)] (G.K.keeps hB) (G.T.nolimit.keeps hB) (by k_is) (by k_is) R.room (BindsTo.of_eq rfl) rfl hb ?_ (by decide)
  intro L h₁ F N
  have KX := (G.keeps (stays_hide (W := [b]) hB (by intro a ha; rw [List.mem_singleton.mp ha]; exact hbB))).K

  have hn0 : n ≠ 0 := by omega
  have hdv : Builtin.divisionGoesByPylong x n = false := PyProof.noPylong_small (by omega)
  repeat' walk1
  dsimp only
  rename Fr _ _ _ _ => F'
  rename News _ _ _ _ => N'
  have e1 : ([x].getD (Int.toNat 0) 0).fmod n = x % n := by
    show x.fmod n = x % n
    exact Int.fmod_eq_emod_of_nonneg x (by omega)
  have e2 : ([x].getD (Int.toNat 0) 0).fdiv n = x / n := by
    show x.fdiv n = x / n
    exact Int.fdiv_eq_ediv_of_nonneg x (by omega)
  rw [e1]
  have q := (N' _ (List.mem_cons_self ..)).1
  rw [e2] at q
  exact h _ _ _ _ (fr_hide F') q
end
end Mine

end

open PySem PySem.W PyProof.Rows in
example : True := by
  w_top off
  trivial
open PySem PySem.W PyProof.Rows in
example {M : Model} {A : Around} {E : Value → Shared → Prop} {s : Shared} {Q : Unit → Shared → Prop} (h : Q () s) : wpAny M A (pure ()) Q E s := by
  first
    | (walk1; exact h)
    | exact wpAny_pure h
section
open PySem PySem.W PyProof.Rows PySem.Calls
set_option Elab.async false
set_option maxRecDepth 100000
set_option maxHeartbeats 4000000
namespace Mine
-- HEAD
example : PySem.Challenge.rw_vk0007_01 = PySem.Challenge.rw_vk0007_01 ∧ hd.heap_39 = hd.heap_39 := by
  k_fill
  exact ⟨rfl, rfl⟩
-- BODY
/-- the nine texts, in Python's order -/
def tabS : List Str := ["", "9", "B", "a", "aa", "ab", "b", "ba", "z"]

/-- v is the thing of rank r -/
def IsTh (x : Bool) (r : Nat) (v : Value) : Prop := r < 9 ∧ match x with
  | false => ∃ t, v = .int ((r : Int) - 4) t
  | true => ∃ t, v = .str (tabS.getD r "") t

theorem tab_eq : ∀ a < 9, ∀ b < 9, ((tabS.getD a "").cps.toList == (tabS.getD b "").cps.toList) = (a == b) := by decide +kernel
theorem tab_eq' : ∀ a < 9, ∀ b < 9, ((tabS.getD a "") == (tabS.getD b "")) = (a == b) := by decide +kernel
theorem tab_ne : ∀ a < 9, ∀ b < 9, ((tabS.getD a "").cps.toList != (tabS.getD b "").cps.toList) = (a != b) := by decide +kernel
theorem tab_lt : ∀ a < 9, ∀ b < 9, decide ((tabS.getD a "").cps.toList < (tabS.getD b "").cps.toList) = decide (a < b) := by decide +kernel

section
variable {prog : Program} {w : World} {A : Around} {s : Shared} {Q : Value → Shared → Prop} {E : Value → Shared → Prop} {x : Bool} {a b : Nat} {u v : Value}
theorem th_eq (hu : IsTh x a u) (hv : IsTh x b v) (h : Q (.bool (a == b)) s) : wpAny (model prog w) A (compareOp .Eq u v) Q E s := by
  obtain ⟨ha, hu⟩ := hu
  obtain ⟨hb, hv⟩ := hv
  cases x with
  | false =>
    obtain ⟨t, rfl⟩ := hu
    obtain ⟨t', rfl⟩ := hv
    refine PyProof.Rows.eq_int ?_
    have e : (((a : Int) - 4) == ((b : Int) - 4)) = (a == b) := by rw [Bool.eq_iff_iff]; simp only [beq_iff_eq]; omega
    rw [e]; exact h
  | true =>
    obtain ⟨t, rfl⟩ := hu
    obtain ⟨t', rfl⟩ := hv
    refine PyProof.Rows.eq_str ?_
    rw [tab_eq' a ha b hb]; exact h
theorem th_ne (hu : IsTh x a u) (hv : IsTh x b v) (h : Q (.bool (a != b)) s) : wpAny (model prog w) A (compareOp .NotEq u v) Q E s := by
  obtain ⟨ha, hu⟩ := hu
  obtain ⟨hb, hv⟩ := hv
  cases x with
  | false =>
    obtain ⟨t, rfl⟩ := hu
    obtain ⟨t', rfl⟩ := hv
    refine PyProof.Rows.ne_int ?_
    have e : (((a : Int) - 4) != ((b : Int) - 4)) = (a != b) := by rw [Bool.eq_iff_iff]; simp only [bne_iff_ne]; omega
    rw [e]; exact h
  | true =>
    obtain ⟨t, rfl⟩ := hu
    obtain ⟨t', rfl⟩ := hv
    refine PySem.P.ne_str ?_
    rw [tab_ne a ha b hb]; exact h
theorem th_lt (hu : IsTh x a u) (hv : IsTh x b v) (h : Q (.bool (decide (a < b))) s) : wpAny (model prog w) A (compareOp .Lt u v) Q E s := by
  obtain ⟨ha, hu⟩ := hu
  obtain ⟨hb, hv⟩ := hv
  cases x with
  | false =>
    obtain ⟨t, rfl⟩ := hu
    obtain ⟨t', rfl⟩ := hv
    refine PyProof.Rows.lt_int ?_
    have e : decide (((a : Int) - 4) < ((b : Int) - 4)) = decide (a < b) := by rw [Bool.eq_iff_iff]; simp only [decide_eq_true_eq]; omega
    rw [e]; exact h
  | true =>
    obtain ⟨t, rfl⟩ := hu
    obtain ⟨t', rfl⟩ := hv
    refine PySem.P.lt_str ?_
    rw [tab_lt a ha b hb]; exact h
theorem th_eqAt (hu : IsTh x a u) (hv : IsTh x b v) : PySem.SeqAt.EqAt A s u v (a == b) := by
  obtain ⟨ha, hu⟩ := hu
  obtain ⟨hb, hv⟩ := hv
  cases x with
  | false =>
    obtain ⟨t, rfl⟩ := hu
    obtain ⟨t', rfl⟩ := hv
    have e : (((a : Int) - 4) == ((b : Int) - 4)) = (a == b) := by rw [Bool.eq_iff_iff]; simp only [beq_iff_eq]; omega
    rw [← e]
    exact (PySem.MeetsSeq.EqGives.int _ _ _ _).at A s
  | true =>
    obtain ⟨t, rfl⟩ := hu
    obtain ⟨t', rfl⟩ := hv
    rw [← tab_eq a ha b hb]
    exact PySem.MeetsSeq.EqGives.at (PySem.SeqRoads2.EqGives.str _ _ _ _) A s
end

/-- the values are the things of these ranks -/
inductive Ths (x : Bool) : List Nat → List Value → Prop
  | nil : Ths x [] []
  | cons {r v rs vs} : IsTh x r v → Ths x rs vs → Ths x (r :: rs) (v :: vs)

section
variable {x : Bool} {rs rs' : List Nat} {vs vs' : List Value} {r : Nat} {v : Value}
theorem Ths.len (h : Ths x rs vs) : rs.length = vs.length := by
  induction h with
  | nil => rfl
  | cons _ _ ih => simp [ih]
theorem Ths.get (h : Ths x rs vs) : ∀ {i : Nat} {v : Value}, vs[i]? = some v → ∃ r, rs[i]? = some r ∧ IsTh x r v := by
  induction h with
  | nil => intro i v e; simp at e
  | cons hd _ ih =>
    intro i v e
    cases i with
    | zero => simp at e; subst e; exact ⟨_, by simp, hd⟩
    | succ i => simp at e; simpa using ih e
theorem Ths.get' (h : Ths x rs vs) : ∀ {i : Nat} {r : Nat}, rs[i]? = some r → ∃ v, vs[i]? = some v ∧ IsTh x r v := by
  induction h with
  | nil => intro i v e; simp at e
  | cons hd _ ih =>
    intro i v e
    cases i with
    | zero => simp at e; subst e; exact ⟨_, by simp, hd⟩
    | succ i => simp at e; simpa using ih e
theorem Ths.append (h : Ths x rs vs) (h' : Ths x rs' vs') : Ths x (rs ++ rs') (vs ++ vs') := by
  induction h with
  | nil => exact h'
  | cons hd _ ih => exact .cons hd ih
theorem Ths.one (h : IsTh x r v) : Ths x [r] [v] := .cons h .nil
theorem Ths.take (h : Ths x rs vs) : ∀ n, Ths x (rs.take n) (vs.take n) := by
  induction h with
  | nil => intro n; simpa using Ths.nil
  | cons hd _ ih => intro n; cases n with
    | zero => exact .nil
    | succ n => exact .cons hd (ih n)
theorem Ths.drop (h : Ths x rs vs) : ∀ n, Ths x (rs.drop n) (vs.drop n) := by
  induction h with
  | nil => intro n; simpa using Ths.nil
  | cons hd t ih => intro n; cases n with
    | zero => exact .cons hd t
    | succ n => exact ih n
theorem Ths.reverse (h : Ths x rs vs) : Ths x rs.reverse vs.reverse := by
  induction h with
  | nil => exact .nil
  | cons hd _ ih => simp only [List.reverse_cons]; exact ih.append (.one hd)
theorem Ths.eraseIdx (h : Ths x rs vs) : ∀ n, Ths x (rs.eraseIdx n) (vs.eraseIdx n) := by
  induction h with
  | nil => intro n; simpa using Ths.nil
  | cons hd t ih => intro n; cases n with
    | zero => exact t
    | succ n => exact .cons hd (ih n)
theorem IsTh.uniq {a b : Nat} {v : Value} (h : IsTh x a v) (h' : IsTh x b v) : a = b := by
  obtain ⟨ha, h⟩ := h
  obtain ⟨hb, h'⟩ := h'
  cases x with
  | false =>
    obtain ⟨t, rfl⟩ := h
    obtain ⟨t', e⟩ := h'
    have := (Value.int.inj e).1
    omega
  | true =>
    obtain ⟨t, rfl⟩ := h
    obtain ⟨t', e⟩ := h'
    have q := (Value.str.inj e).1
    have := tab_eq a ha b hb
    rw [q] at this
    simpa using this.symm
open Classical in
/-- v is a thing of rank r, as a Bool -/
noncomputable def eTh (x : Bool) (r : Nat) (v : Value) : Bool := decide (IsTh x r v)
theorem eTh_eq {a b : Nat} {v : Value} (h : IsTh x a v) : eTh x b v = (a == b) := by
  classical
  unfold eTh
  rw [Bool.eq_iff_iff]
  simp only [decide_eq_true_eq, beq_iff_eq]
  exact ⟨fun h' => h.uniq h', fun e => e ▸ h⟩
theorem Ths.mem (h : Ths x rs vs) (hv : v ∈ vs) : ∃ r ∈ rs, IsTh x r v := by
  obtain ⟨i, e⟩ := List.mem_iff_getElem?.mp hv
  obtain ⟨r, h1, h2⟩ := h.get e
  exact ⟨r, List.mem_of_getElem? h1, h2⟩
theorem Ths.eqAt {A : Around} {s : Shared} {u : Value} (h : Ths x rs vs) (hu : IsTh x r u) : ∀ y ∈ vs.toArray, PySem.SeqAt.EqAt A s y u (eTh x r y) := fun y hy => by
  obtain ⟨a, _, ha⟩ := h.mem (by simpa using hy)
  rw [eTh_eq ha]
  exact th_eqAt ha hu
theorem Ths.any (h : Ths x rs vs) (r : Nat) : vs.toArray.any (eTh x r) = rs.contains r := by
  have key : vs.any (eTh x r) = rs.contains r := by
    induction h with
    | nil => rfl
    | cons hd _ ih =>
      rw [List.any_cons, ih, List.contains_cons, eTh_eq hd]
      congr 1
      rw [Bool.eq_iff_iff]; simp only [beq_iff_eq]; exact eq_comm
  simpa using key
end

/-- the dict of a SortedSet's own: _items alone -/
abbrev itemsDict (hsh : Int) (tk : Tok) (l : Addr) (n : Nat) : Obj := dictOf [⟨hsh, .str "_items" tk, .ref l⟩] n
theorem items_get (hsh : Int) (tk : Tok) (l : Addr) : getL "_items" [⟨hsh, .str "_items" tk, .ref l⟩] = some (some (.ref l)) := rfl
theorem items_not (hsh : Int) (tk : Tok) (l : Addr) {name : Str} (h : (("_items" : Str) == name) = false) : getL name [⟨hsh, .str "_items" tk, .ref l⟩] = some none := by
  unfold getL
  have e : ([⟨hsh, .str "_items" tk, .ref l⟩] : List DictEntry).find? (·.key.isStr name) = none := by
    rw [List.find?_cons]
    show (match (("_items" : Str) == name) with | true => _ | false => _) = _
    rw [h]; rfl
  rw [e]; rfl
/-- x is a SortedSet whose _items is the list at l -/
def SetIs (h : Heap) (a l : Addr) : Prop := ∃ dx hsh tk n, h.get? a = some (instObj 306 dx) ∧ h.get? dx = some (itemsDict hsh tk l n)
theorem SetIs.stays {h h' : Heap} {a l : Addr} (S : SetIs h a l) (k : Heap.StaysIn h h') : SetIs h' a l := by
  obtain ⟨dx, hsh, tk, n, h1, h2⟩ := S
  exact ⟨dx, hsh, tk, n, k _ _ h1, k _ _ h2⟩
theorem SetIs.off {h h' : Heap} {a l b : Addr} {vs : Array Value} {n : Nat} (S : SetIs h a l) (k : Off [b] h h') (hb : h.get? b = some (listOf vs n)) : SetIs h' a l := by
  obtain ⟨dx, hsh, tk, n', h1, h2⟩ := S
  refine ⟨dx, hsh, tk, n', k _ _ (fun q => ?_) h1, k _ _ (fun q => ?_) h2⟩
  · rw [List.mem_singleton.mp q, hb] at h1; cases h1
  · rw [List.mem_singleton.mp q, hb] at h2; exact absurd (congrArg Obj.cls (Option.some.inj h2)) (by simp)
theorem SetIs.hide {h : Heap} {a l b : Addr} {vs : Array Value} {n : Nat} (S : SetIs h a l) (hb : h.get? b = some (listOf vs n)) : SetIs (hideAll h [b]) a l := by
  obtain ⟨dx, hsh, tk, n', h1, h2⟩ := S
  refine ⟨dx, hsh, tk, n', hideAll_get _ h1 (fun q => ?_), hideAll_get _ h2 (fun q => ?_)⟩
  · rw [List.mem_singleton.mp q, hb] at h1; cases h1
  · rw [List.mem_singleton.mp q, hb] at h2; exact absurd (congrArg Obj.cls (Option.some.inj h2)) (by simp)

end Mine

end

open PySem PySem.W PyProof.Rows in
example : True := by
  w_top off
  trivial
open PySem PySem.W PyProof.Rows in
example {M : Model} {A : Around} {E : Value → Shared → Prop} {s : Shared} {Q : Unit → Shared → Prop} (h : Q () s) : wpAny M A (pure ()) Q E s := by
  first
    | (walk1; exact h)
    | exact wpAny_pure h
section
open PySem PySem.W PyProof.Rows PySem.Calls
set_option Elab.async false
set_option maxRecDepth 100000
set_option maxHeartbeats 4000000
set_option pp.deepTerms.threshold 5
set_option pp.maxSteps 2000
namespace Mine
-- HEAD
example : PySem.Challenge.rw_vk0007_01 = PySem.Challenge.rw_vk0007_01 ∧ hd.heap_39 = hd.heap_39 := by
  k_fill
  exact ⟨rfl, rfl⟩
-- BODY
theorem boot_reversed : bootBuiltins "reversed" = some (.type "reversed") := by rfl
theorem boot_list : bootBuiltins "list" = some (.type "list") := by rfl
theorem boot_range : bootBuiltins "range" = some (.type "range") := by rfl
theorem boot_tuple : bootBuiltins "tuple" = some (.type "tuple") := by rfl
section
variable {w : World} {A : Around} {s : Shared} {mg mb : Str → Option Value} {B : Heap} {Q : Value → Shared → Prop} {E : Value → Shared → Prop}

theorem items_at {h₀ : Heap} {L : Addr} {m : Str → Option Value} {x l : Addr} {e : Bool} (F : Fr h₀ L s.heap m) (G : Gr w mg mb h₀) (S : SetIs s.heap x l) (h : Q (.ref l) { s with toks := s.toks + 1 }) :
    wpAny (model PySem.Challenge.rw_vk0007_01.row.prog w) A (getAttr (.ref x) "_items" e) Q E s := by
  obtain ⟨dx, hsh, tk, n, h1, h2⟩ := S
  have hg : plainGet (hd.heap_39 w.params) 306 "_items" = true := by k_is
  have hh : hasDictIn (hd.heap_39 w.params) 306 = true := by k_is
  have ha : findIn (hd.heap_39 w.params) (.ref 306) "_items" = some none := by k_is
  have hn : noGet (hd.heap_39 w.params) none = true := by k_is
  exact get_value (G.K.keeps F.keep) (C := 306) (od := some (itemsDict hsh tk l n)) ⟨h1, rfl, rfl, h2⟩ (plainGet_of hg).1 (findObj_own hh ha hn (items_get hsh tk l)) rfl h

section
variable {h₀ : Heap} {L a : Addr} {m : Str → Option Value} {cn : Str} {cs : Scope} {ccd : Value} {cl : List (Str × Addr)} {x : Str} {pos : Pos} {v : Value}
theorem name_B (F : Fr h₀ L s.heap m) (G : Gr w mg mb h₀) (e : nsIn (hd.heap_39 w.params) mainGlobals x = some none) (hv : bootBuiltins x = some v) (hn : x ≠ "__name__") (h : Q v s)
    (hk : cs.kind = .function := by rfl) (hx : (envX cn cs L a ccd cl).kindOf x = some .globalImplicit := by rfl) (hd : (x == ("__debug__" : Str)) = false := by decide) :
    wpAny (model PySem.Challenge.rw_vk0007_01.row.prog w) A (eval (.Name x pos) (envX cn cs L a ccd cl)) Q E s := nameX_B F G.K G.T e hv hn h hk hx hd
theorem name_G (F : Fr h₀ L s.heap m) (G : Gr w mg mb h₀) (e : nsIn (hd.heap_39 w.params) mainGlobals x = some (some v)) (h : Q v s)
    (hk : cs.kind = .function := by rfl) (hx : (envX cn cs L a ccd cl).kindOf x = some .globalImplicit := by rfl) (hd : (x == ("__debug__" : Str)) = false := by decide) :
    wpAny (model PySem.Challenge.rw_vk0007_01.row.prog w) A (eval (.Name x pos) (envX cn cs L a ccd cl)) Q E s := nameX_K F G.K G.T e h hk hx hd
end

theorem item_l {value slice : PySem.Expr} {l : Addr} {vs : Array Value} {k : Int} {u : Tok} {v : Value}
    (hl : s.heap.IsList l vs) (h0 : 0 ≤ k) (hhi : k < 2 ^ 63) (hx : vs[k.toNat]? = some v) (h : Q v s)
    (hs : subscripted slice false (.ref l) (.int k u) = operate [.ref l, .int k u] (getItem (.ref l) (.int k u)) := by with_unfolding_all rfl) :
    wpAny (model PySem.Challenge.rw_vk0007_01.row.prog w) A (subscriptTail value slice (.ref l) (.int k u)) Q E s :=
  tail_any hl.typeIs slot_list_getitem.lookup (wpAny_getItem_list hl h0 hhi hx h) hs

theorem try_ok {body orelse : List Stmt} {h₀ : ExceptHandler} {hs : List ExceptHandler} {pos : Pos} {Q : Flow → Shared → Prop} {prog : Program} {env : Env}
    (h : wpAny (model prog w) A (execs body env) (fun f s₁ => match f with | .next => wpAny (model prog w) A (execs orelse env) Q E s₁ | f => Q f s₁) (fun _ _ => False) s) :
    wpAny (model prog w) A (exec (.Try body (h₀ :: hs) orelse [] pos) env) Q E s := wpAny_Try_except (wpAny_mono h (fun _ _ q => q) fun _ _ q => q.elim)

local macro_rules | `(tactic| walk_at "getAttr ref") => `(tactic| k_dflt (refine items_at (by assumption) (by assumption) (SetIs.stays (by assumption) (Fr.keep (by assumption))) ?_))
local macro_rules | `(tactic| walk_at "eval Name") => `(tactic| k_dflt (first
  | (refine' nameX_L ?hf ?hv ?_; (case hf => assumption); (case hv => first | (with_unfolding_all rfl) | (with_unfolding_all assumption)))
  | (refine name_B (by assumption) (by assumption) (by k_is) (by rfl) (by decide) ?_)
  | (refine name_G (by assumption) (by assumption) (by k_is) ?_)))

theorem find_spec {x l : Addr} {vs : Array Value} {ds : List Nat} {r : Nat} {v : Value} {tx : Bool}
    (G : Gr w mg mb B) (hB : Heap.StaysIn B s.heap) (R : Rm A 1) (S : SetIs s.heap x l) (hl : s.heap.IsList l vs) (hT : Ths tx ds vs.toList) (hv : IsTh tx r v) (hs : ds.Pairwise (· < ·)) (hlen : ds.length < 1000)
    (h : ∀ h' tk t, Heap.StaysIn s.heap h' → Q (.int (bis ds r) t) { s with heap := h', toks := tk }) :
    wpAny (model PySem.Challenge.rw_vk0007_01.row.prog w) A (call (.ref 303) [.ref x, v]) Q E s := by
  refine enter0 [("self", .ref x), ("x", v)] (G.K.keeps hB) (G.T.nolimit.keeps hB) (by k_is) (by k_is) R.room (BindsTo.of_eq rfl) rfl ?_ (by decide)
  intro L h₁ F N
  have G₀ := G.keeps hB
  have KX := G₀.K
  have hlen' : vs.size < 1000 := by rw [← Array.length_toList, ← hT.len]; exact hlen
  iterate 22 walk1
  refine try_ok ?_
  walk1
  rename Fr _ _ _ _ => F₁
  rename News _ _ _ _ => N₁
  refine While_inv (n₀ := vs.size) (fun n m _ => ∃ (lo hi : Nat) (tl th : Tok), m "self" = some (.ref x) ∧ m "x" = some v ∧ m "a" = some (.ref l) ∧ m "lo" = some (.int lo tl) ∧ m "hi" = some (.int hi th) ∧ lo ≤ hi ∧ hi ≤ vs.size ∧ hi - lo = n ∧
    (∀ i d, i < lo → ds[i]? = some d → d < r) ∧ (∀ i d, hi ≤ i → ds[i]? = some d → ¬ d < r)) F₁ N₁ ?_ ?_ (fun _ _ h => h.elim)
  · exact ⟨0, vs.size, _, _, rfl, rfl, rfl, rfl, rfl, Nat.zero_le _, Nat.le_refl _, rfl, fun i d hi => absurd hi (Nat.not_lt_zero _), fun i d hi hd => by
      have := (List.getElem?_eq_some_iff.mp hd).1
      have h3 : ds.length = vs.size := by rw [← Array.length_toList]; exact hT.len
      omega⟩
  · rintro n m₁ news₁ h₂ tk₁ F₂ N₂ ⟨lo, hi, tl, th, h1, h2, h3, h4, h5, h6, h7, h8, h9, h10⟩
    clear F₁ N₁
    repeat' walk1
    · rename (lo : Int) < _ => hlt
      have hlt' : lo < hi := by omega
      have em : ((lo : Int) + (hi : Int)).fdiv 2 = (((lo + hi) / 2 : Nat) : Int) := by
        rw [Int.fdiv_eq_ediv_of_nonneg _ (by omega)]; omega
      rw [em]
      have em1 : ((lo : Int) + (hi : Int)).fdiv 2 + 1 = (((lo + hi) / 2 + 1 : Nat) : Int) := by rw [em]; omega
      have hm : (lo + hi) / 2 < vs.size := by omega
      obtain ⟨d, hd1, hd2⟩ := hT.get (i := (lo + hi) / 2) (v := vs[(lo + hi) / 2]) (by simp [hm])
      refine item_l (hl.at fun o e => Fr.keep (by assumption) l o e) (by omega) (by omega) (v := vs[(lo + hi) / 2]) (by rw [Int.toNat_natCast]; simp [hm]) ?_
      walk1
      refine th_lt hd2 hv ?_
      repeat' walk1
      · rename d < r => hdr
        rename Fr _ _ _ _ => F₃
        rename News _ _ _ _ => N₃
        exact WhileStep.intro (n' := hi - ((lo + hi) / 2 + 1)) F₃ N₃ (by omega) ⟨(lo + hi) / 2 + 1, hi, _, _, h1, h2, h3, congrArg (fun z => some (Value.int z _)) em1, h5, by omega, h7, rfl, fun i d' hi' hd' => (by
          by_cases q : i = (lo + hi) / 2
          · rw [q, hd1] at hd'; cases hd'; exact hdr
          · exact Nat.lt_trans (sorted_lt hs hd' hd1 (by omega)) hdr), h10⟩
      · rename ¬ d < r => hdr
        rename Fr _ _ _ _ => F₃
        rename News _ _ _ _ => N₃
        exact WhileStep.intro (n' := (lo + hi) / 2 - lo) F₃ N₃ (by omega) ⟨lo, (lo + hi) / 2, _, _, h1, h2, h3, h4, congrArg (fun z => some (Value.int z _)) em, by omega, by omega, rfl, h9, fun i d' hi' hd' => (by
          by_cases q : i = (lo + hi) / 2
          · rw [q, hd1] at hd'; cases hd'; exact hdr
          · have := sorted_lt hs hd1 hd' (by omega); omega)⟩
    · dsimp only
      rename ¬ _ < _ => hlt
      have e : lo = hi := by omega
      subst e
      have := bis_is (ds := ds) (r := r) (k := lo) (by rw [hT.len, Array.length_toList]; exact h7) h9 h10
      rw [← this]
      exact h _ _ _ F₂.keep
end
end Mine

end

open PySem PySem.W PyProof.Rows in
example : True := by
  w_top off
  trivial
open PySem PySem.W PyProof.Rows in
example {M : Model} {A : Around} {E : Value → Shared → Prop} {s : Shared} {Q : Unit → Shared → Prop} (h : Q () s) : wpAny M A (pure ()) Q E s := by
  first
    | (walk1; exact h)
    | exact wpAny_pure h
section
open PySem PySem.W PyProof.Rows PySem.Calls
set_option Elab.async false
set_option maxRecDepth 100000
set_option maxHeartbeats 4000000
set_option pp.deepTerms.threshold 5
set_option pp.maxSteps 2000
namespace Mine
-- HEAD
example : PySem.Challenge.rw_vk0007_01 = PySem.Challenge.rw_vk0007_01 ∧ hd.heap_39 = hd.heap_39 := by
  k_fill
  exact ⟨rfl, rfl⟩
-- BODY
section
variable {w : World} {A : Around} {s : Shared} {mg mb : Str → Option Value} {B : Heap} {Q : Value → Shared → Prop} {E : Value → Shared → Prop}

theorem meth_at {h₀ : Heap} {L : Addr} {m : Str → Option Value} {x l f : Addr} {name : Str} {pl : Sem Bool} {Q : Value × List Value → Shared → Prop} (F : Fr h₀ L s.heap m) (G : Gr w mg mb h₀) (S : SetIs s.heap x l)
    (hg : plainGet (hd.heap_39 w.params) 306 name = true) (hf : findIn (hd.heap_39 w.params) (.ref 306) name = some (some (.ref f))) (ht : isFn (hd.heap_39 w.params) (.ref f) = true)
    (hn : (("_items" : Str) == name) = false) (h : Q (.ref f, [.ref x]) s) :
    wpAny (model PySem.Challenge.rw_vk0007_01.row.prog w) A (getMethod (.ref x) name pl) Q E s := by
  obtain ⟨dx, hsh, tk, n, h1, h2⟩ := S
  exact method_inst F G.K (C := 306) (es := [⟨hsh, .str "_items" tk, .ref l⟩]) (n := n) ⟨h1, rfl, rfl, h2⟩ hg hf ht (items_not hsh tk l hn) h

local macro_rules | `(tactic| walk_at "getAttr ref") => `(tactic| k_dflt (refine items_at (by assumption) (by assumption) (SetIs.stays (by assumption) (Fr.keep (by assumption))) ?_))
local macro_rules | `(tactic| walk_at "getMethod ref") => `(tactic| k_dflt (refine' meth_at ?f ?g ?s ?k1 ?k2 ?k3 ?k4 ?_; (case f => assumption); (case g => assumption); (case s => exact SetIs.stays (by assumption) (Fr.keep (by assumption))); (case k1 => k_is); (case k2 => k_is); (case k3 => k_is); (case k4 => decide)))
local macro_rules | `(tactic| walk_at "eval Name") => `(tactic| k_dflt (first
  | (refine' nameX_L ?hf ?hv ?_; (case hf => assumption); (case hv => first | (with_unfolding_all rfl) | (with_unfolding_all assumption)))
  | (refine name_B (by assumption) (by assumption) (by k_is) (by rfl) (by decide) ?_)
  | (refine name_G (by assumption) (by assumption) (by k_is) ?_)))

theorem contains_spec {x l : Addr} {vs : Array Value} {ds : List Nat} {r : Nat} {v : Value} {tx : Bool}
    (G : Gr w mg mb B) (hB : Heap.StaysIn B s.heap) (R : Rm A 2) (S : SetIs s.heap x l) (hl : s.heap.IsList l vs) (hT : Ths tx ds vs.toList) (hv : IsTh tx r v) (hs : ds.Pairwise (· < ·)) (hlen : ds.length < 1000)
    (h : ∀ h' tk, Heap.StaysIn s.heap h' → Q (.bool (ds.contains r)) { s with heap := h', toks := tk }) :
    wpAny (model PySem.Challenge.rw_vk0007_01.row.prog w) A (call (.ref 184) [.ref x, v]) Q E s := by
  refine enter0 [("self", .ref x), ("item", v)] (G.K.keeps hB) (G.T.nolimit.keeps hB) (by k_is) (by k_is) R.room (BindsTo.of_eq rfl) rfl ?_ (by decide)
  intro L h₁ F N
  have G₀ := G.keeps hB
  have KX := G₀.K
  have hsz : ds.length = vs.size := by rw [← Array.length_toList]; exact hT.len
  have hlen' : vs.size < 1000 := by omega
  repeat' walk1
  refine find_spec G (up F hB) (R.deeper _) (S.stays F.keep) (upL F hl) hT hv hs hlen ?_
  intro h₂ tk₂ t k₂
  have F₂ := F.keeps k₂
  have N₂ := N.keeps k₂
  clear F N
  repeat' walk1
  · rename (bis ds r : Int) < _ => hc
    have hb : bis ds r < vs.size := by omega
    obtain ⟨d, hd1, hd2⟩ := hT.get (i := bis ds r) (v := vs[bis ds r]) (by simp [hb])
    rename Fr _ _ _ _ => F₃
    refine item_l (upL F₃ hl) (by omega) (by omega) (v := vs[bis ds r]) (by rw [Int.toNat_natCast]; simp [hb]) ?_
    walk1
    refine th_eq hd2 hv ?_
    rw [← bis_mid hs hd1]
    exact h _ _ F₃.keep
  · rename ¬ _ < _ => hc
    rename Fr _ _ _ _ => F₃
    have e1 : decide ((bis ds r : Int) < vs.size) = ds.contains r := by
      rw [bis_end (by have := bis_le ds r; omega)]
      exact decide_eq_false (by omega)
    rw [e1]
    exact h _ _ F₃.keep
end
end Mine

end

open PySem PySem.W PyProof.Rows in
example : True := by
  w_top off
  trivial
open PySem PySem.W PyProof.Rows in
example {M : Model} {A : Around} {E : Value → Shared → Prop} {s : Shared} {Q : Unit → Shared → Prop} (h : Q () s) : wpAny M A (pure ()) Q E s := by
  first
    | (walk1; exact h)
    | exact wpAny_pure h
section
open PySem PySem.W PyProof.Rows PySem.Calls
set_option Elab.async false
set_option maxRecDepth 100000
set_option maxHeartbeats 4000000
set_option pp.deepTerms.threshold 5
set_option pp.maxSteps 2000
namespace Mine
-- HEAD
example : PySem.Challenge.rw_vk0007_01 = PySem.Challenge.rw_vk0007_01 ∧ hd.heap_39 = hd.heap_39 := by
  k_fill
  exact ⟨rfl, rfl⟩
local macro_rules | `(tactic| walk_at "getAttr ref") => `(tactic| k_dflt (refine items_at (by assumption) (by assumption) (SetIs.stays (by assumption) (Fr.keep (by assumption))) ?_))
local macro_rules | `(tactic| walk_at "getMethod ref") => `(tactic| k_dflt (refine' meth_at ?f ?g ?s ?k1 ?k2 ?k3 ?k4 ?_; (case f => assumption); (case g => assumption); (case s => exact SetIs.stays (by assumption) (Fr.keep (by assumption))); (case k1 => k_is); (case k2 => k_is); (case k3 => k_is); (case k4 => decide)))
local macro_rules | `(tactic| walk_at "eval Name") => `(tactic| k_dflt (first
  | (refine' nameX_L ?hf ?hv ?_; (case hf => assumption); (case hv => first | (with_unfolding_all rfl) | (with_unfolding_all assumption)))
  | (refine name_B (by assumption) (by assumption) (by k_is) (by rfl) (by decide) ?_)
  | (refine name_G (by assumption) (by assumption) (by k_is) ?_)))
-- BODY
section
variable {w : World} {A : Around} {s : Shared} {mg mb : Str → Option Value} {B : Heap} {Q : Value → Shared → Prop} {E : Value → Shared → Prop}

theorem add_spec {x l : Addr} {vs : Array Value} {ep : Nat} {ds : List Nat} {r : Nat} {v : Value} {tx : Bool}
    (G : Gr w mg mb B) (hB : Heap.StaysIn B s.heap) (hlB : B.get? l = none) (R : Rm A 2) (S : SetIs s.heap x l) (hl : s.heap.get? l = some (listOf vs ep)) (hT : Ths tx ds vs.toList) (hv : IsTh tx r v) (hs : ds.Pairwise (· < ·)) (hlen : ds.length < 900)
    (h : ∀ h' tk vs' ep', Off [l] s.heap h' → h'.get? l = some (listOf vs' ep') → Ths tx (ins ds r) vs'.toList → Q .none { s with heap := h', toks := tk }) :
    wpAny (model PySem.Challenge.rw_vk0007_01.row.prog w) A (call (.ref 198) [.ref x, v]) Q E s := by
  refine enter1 [("self", .ref x), ("item", v)] (G.K.keeps hB) (G.T.nolimit.keeps hB) (by k_is) (by k_is) R.room (BindsTo.of_eq rfl) rfl hl ?_ (by decide)
  intro L h₁ F N
  have hB₀ : Heap.StaysIn B (hideAll s.heap [l]) := stays_hide hB (by intro a ha; rw [List.mem_singleton.mp ha]; exact hlB)
  have G₀ := G.keeps hB₀
  have KX := G₀.K
  have S₀ := S.hide hl
  have hsz : ds.length = vs.size := by rw [← Array.length_toList]; exact hT.len
  have hlen' : vs.size < 1000 := by omega
  repeat' walk1
  refine find_spec G (up F hB₀) (R.deeper _) (S₀.stays F.keep) (listAt (N _ (.head _)).1) hT hv hs (by omega) ?_
  intro h₂ tk₂ t k₂
  have F₂ := F.keeps k₂
  have N₂ := N.keeps k₂
  clear F N
  repeat' walk1
  · rename (bis ds r : Int) < _ => hc
    have hb : bis ds r < vs.size := by omega
    obtain ⟨d, hd1, hd2⟩ := hT.get (i := bis ds r) (v := vs[bis ds r]) (by simp [hb])
    rename Fr _ _ _ _ => F₃
    rename News _ _ _ _ => N₃
    refine item_l (listAt (N₃ _ (.head _)).1) (by omega) (by omega) (v := vs[bis ds r]) (by rw [Int.toNat_natCast]; simp [hb]) ?_
    walk1
    refine th_ne hd2 hv ?_
    have em := bis_mid hs hd1
    repeat' walk1
    · rename (d != r) = true => hne
      rw [bne_iff_ne] at hne
      refine kl_insert F₃ N₃ (by simp [Builtin.List.listFitsIndex]; omega) rfl (Upd.head (fun _ hp => nomatch hp)) (by rw [Array.length_toList, sizeLine_eq]; omega) ?_
      intro h₄ F₄ N₄
      repeat' walk1
      refine h _ _ _ _ (fr_hide F₄) (N₄ _ (.head _)).1 ?_
      unfold ins
      have e1 : kl_ins vs.toList (bis ds r) v = vs.toList.take (bis ds r) ++ v :: vs.toList.drop (bis ds r) := by
        unfold kl_ins
        rw [if_neg (by omega), Int.toNat_natCast, Nat.min_eq_left (by rw [Array.length_toList]; omega)]
      rw [if_neg (by rw [em]; simpa using hne)]
      show Ths tx _ (kl_ins vs.toList (bis ds r) v)
      rw [e1]
      exact (hT.take _).append (.cons hv (hT.drop _))
    · rename (d != r) = false => hne
      refine h _ _ _ _ (fr_hide F₃) (N₃ _ (.head _)).1 ?_
      unfold ins
      rw [if_pos (by rw [em]; simpa using hne)]
      exact hT
  · rename ¬ _ < _ => hc
    rename Fr _ _ _ _ => F₃
    rename News _ _ _ _ => N₃
    have hb : bis ds r = ds.length := by have := bis_le ds r; omega
    refine h _ _ _ _ (fr_hide F₃) (N₃ _ (.head _)).1 ?_
    unfold ins
    rw [bis_end hb, if_neg (by simp), hb, List.take_length, List.drop_length, Array.toList_push]
    exact hT.append (.one hv)
end
end Mine

end

open PySem PySem.W PyProof.Rows in
example : True := by
  w_top off
  trivial
open PySem PySem.W PyProof.Rows in
example {M : Model} {A : Around} {E : Value → Shared → Prop} {s : Shared} {Q : Unit → Shared → Prop} (h : Q () s) : wpAny M A (pure ()) Q E s := by
  first
    | (walk1; exact h)
    | exact wpAny_pure h
section
open PySem PySem.W PyProof.Rows PySem.Calls
set_option Elab.async false
set_option maxRecDepth 100000
set_option maxHeartbeats 4000000
set_option pp.deepTerms.threshold 5
set_option pp.maxSteps 2000
namespace Mine
-- BODY
section
variable {prog : Program} {w : World} {A : Around} {s : Shared} {h₀ : Heap} {env : Env}

/-- a turn's end: the next one may begin, with the walker's own object as it was -/
def TurnEnd (h₀ : Heap) (L : Addr) (I : Addr) (oI : Obj) (J : (Str → Option Value) → List (Addr × Obj) → Prop) (s : Shared) (R : Flow → Shared → Prop) (f : Flow) (s₃ : Shared) : Prop := match f with
  | .ret v => R (.ret v) s₃
  | .brk => R .next s₃
  | _ => ∃ h' tk' m' news', s₃ = { s with heap := h', toks := tk' } ∧ Fr h₀ L h' m' ∧ News h₀ L h' ((I, oI) :: news') ∧ (∀ p ∈ news', p.1 ≠ I) ∧ J m' news'

theorem TurnEnd.intro {L I : Addr} {oI : Obj} {J : (Str → Option Value) → List (Addr × Obj) → Prop} {R : Flow → Shared → Prop} {m' : Str → Option Value} {news' : List (Addr × Obj)} {h' : Heap} {tk' : Nat}
    (F : Fr h₀ L h' m') (N : News h₀ L h' ((I, oI) :: news')) (hI : ∀ p ∈ news', p.1 ≠ I) (hJ : J m' news') : TurnEnd h₀ L I oI J s R .next { s with heap := h', toks := tk' } :=
  ⟨h', tk', m', news', rfl, F, N, hI, hJ⟩

theorem loopG {target : PySem.Expr} {body : List Stmt} {I : Addr} {fp : List Addr} {n : Nat} {P : Nat → Value → Prop} {St : Nat → Heap → Prop} {R : Flow → Shared → Prop} {m : Str → Option Value} {news : List (Addr × Obj)}
    (W : Walks prog w A I fp [I] n P St)
    (hgo : ∀ i v (s' : Shared) (Q : Unit → Shared → Prop) (E : Value → Shared → Prop), St i s'.heap → Q () s' → wpAny (model prog w) A (letOwnedTupleGo target (.ref I) v) Q E s')
    (hsome : ∀ i h, St i h → ∃ o, h.get? I = some o)
    (J : Nat → (Str → Option Value) → List (Addr × Obj) → Prop) (hX : ∀ b ∈ fp, b ≠ I → ∃ ob, ∀ i h m news, Fr h₀ env.locals h m → News h₀ env.locals h news → J i m news → h.get? b = some ob)
    (st0 : St 0 s.heap) (oI : Obj) (F : Fr h₀ env.locals s.heap m) (N : News h₀ env.locals s.heap ((I, oI) :: news)) (hI : ∀ p ∈ news, p.1 ≠ I) (hJ : J 0 m news)
    (turn : ∀ i v m₁ news₁ h₁ tk₁ oI, i < n → P i v → J i m₁ news₁ → Fr h₀ env.locals h₁ m₁ → News h₀ env.locals h₁ ((I, oI) :: news₁) → (∀ p ∈ news₁, p.1 ≠ I) →
      wpAny (model prog w) A (assign target env v) (fun _ s₂ => wpAny (model prog w) A (execs body env) (TurnEnd h₀ env.locals I oI (J (i + 1)) s R) (fun _ _ => False) s₂) (fun _ _ => False) { s with heap := h₁, toks := tk₁ })
    (done : ∀ m₁ news₁ h₁ tk₁, J n m₁ news₁ → Fr h₀ env.locals h₁ m₁ → News h₀ env.locals h₁ news₁ → R .next { s with heap := h₁, toks := tk₁ })
    {E : Value → Shared → Prop} :
    codeAny (model prog w) A (.forLoop target (.ref I) body [] env) (fun r s' => match r with | .ok f => R f s' | .error e => E e s') s := by
  refine codeAny_forLoop_any
    (fun k s' => ∃ h' tk m' news' oI i, s' = { s with heap := h', toks := tk } ∧ St i h' ∧ Fr h₀ env.locals h' m' ∧ News h₀ env.locals h' ((I, oI) :: news') ∧ (∀ p ∈ news', p.1 ≠ I) ∧ J i m' news' ∧ i ≤ n ∧ k = n + 1 - i) ?_ (n + 1)
    ⟨s.heap, s.toks, m, news, oI, 0, rfl, st0, F, N, hI, hJ, Nat.zero_le _, rfl⟩
  rintro k s' ⟨h', tk, m', news', oI', i, rfl, hst', F', N', hI', hJ', hi, rfl⟩
  have NI := N' (I, oI') (.head _)
  have nx : ∀ h₁ : Heap, (∀ b o, b ∉ [I] → h'.get? b = some o → h₁.get? b = some o) → Fr h₀ env.locals h₁ m' ∧ News h₀ env.locals h₁ news' := fun h₁ hk₁ => by
    refine ⟨fr_off F' (W := [I]) hk₁ (fun q => NI.2.1 (List.mem_singleton.mp q).symm) (fun a ha => by rw [List.mem_singleton.mp ha]; exact NI.2.2), fun p hp => ?_⟩
    have := N' p (.tail _ hp)
    exact ⟨hk₁ _ _ (fun q => hI' p hp (List.mem_singleton.mp q)) this.1, this.2⟩
  by_cases hlt : i < n
  · refine W.item i _ _ _ hlt hst' fun v h₁ tk₁ hP hst₁ hk₁ => ?_
    obtain ⟨F₁, N₁⟩ := nx h₁ hk₁
    refine hgo (i + 1) v _ _ _ hst₁ ?_
    obtain ⟨oI₁, hoI⟩ := hsome _ _ hst₁
    have N₂ : News h₀ env.locals h₁ ((I, oI₁) :: news') := fun p hp => by
      rcases List.mem_cons.mp hp with rfl | hp
      · exact ⟨hoI, NI.2⟩
      · exact N₁ p hp
    refine wpAny_mono (turn i v m' news' h₁ tk₁ oI₁ hlt hP hJ' F₁ N₂ hI') (fun _ s₂ h₂ => wpAny_mono h₂ (fun f s₃ h₃ => ?_) fun _ _ e => e.elim) fun _ _ e => e.elim
    have cont : TurnEnd h₀ env.locals I oI₁ (J (i + 1)) s R .next s₃ → ∃ m_1, m_1 < n + 1 - i ∧ ∃ h' tk m' news' oI i, s₃ = { s with heap := h', toks := tk } ∧ St i h' ∧ Fr h₀ env.locals h' m' ∧ News h₀ env.locals h' ((I, oI) :: news') ∧ (∀ p ∈ news', p.1 ≠ I) ∧ J i m' news' ∧ i ≤ n ∧ m_1 = n + 1 - i := by
      rintro ⟨h₄, tk₄, m₄, news₄, rfl, F₄, N₄, hI₄, hJ₄⟩
      refine ⟨n + 1 - (i + 1), by omega, h₄, tk₄, m₄, news₄, oI₁, i + 1, rfl, ?_, F₄, N₄, hI₄, hJ₄, hlt, rfl⟩
      refine W.frame _ _ _ hst₁ fun b hb o e => ?_
      by_cases hbI : b = I
      · subst hbI
        rw [hoI] at e; cases e; exact (N₄ _ (.head _)).1
      · obtain ⟨ob, hob⟩ := hX b hb hbI
        rw [hob i h₁ m' news' F₁ N₁ hJ'] at e; cases e
        exact hob (i + 1) h₄ m₄ news₄ F₄ (fun p hp => N₄ p (.tail _ hp)) hJ₄
    cases f with
    | ret v => exact h₃
    | brk => exact h₃
    | cont => exact cont h₃
    | next => exact cont h₃
  · have hin : i = n := by omega
    subst hin
    refine W.done _ _ _ hst' fun h₁ tk₁ hk₁ => wpAny_execs_nil ?_
    obtain ⟨F₁, N₁⟩ := nx h₁ hk₁
    exact done m' news' h₁ tk₁ hJ' F₁ N₁

theorem loopW {target : PySem.Expr} {body : List Stmt} {I ax : Addr} {oax : Obj} {items : Array Value} {St : Nat → Heap → Prop} {R : Flow → Shared → Prop} {m : Str → Option Value} {news : List (Addr × Obj)}
    (W : Walks prog w A I [I, ax] [I] items.size (fun i v => items[i]? = some v) St)
    (hgo : ∀ i v (s' : Shared) (Q : Unit → Shared → Prop) (E : Value → Shared → Prop), St i s'.heap → Q () s' → wpAny (model prog w) A (letOwnedTupleGo target (.ref I) v) Q E s')
    (hsome : ∀ i h, St i h → ∃ o, h.get? I = some o)
    (J : Nat → (Str → Option Value) → List (Addr × Obj) → Prop) (hX : ∀ i h m news, Fr h₀ env.locals h m → News h₀ env.locals h news → J i m news → h.get? ax = some oax)
    (st0 : St 0 s.heap) (oI : Obj) (F : Fr h₀ env.locals s.heap m) (N : News h₀ env.locals s.heap ((I, oI) :: news)) (hI : ∀ p ∈ news, p.1 ≠ I) (hJ : J 0 m news)
    (turn : ∀ i v m₁ news₁ h₁ tk₁ oI, items[i]? = some v → J i m₁ news₁ → Fr h₀ env.locals h₁ m₁ → News h₀ env.locals h₁ ((I, oI) :: news₁) → (∀ p ∈ news₁, p.1 ≠ I) →
      wpAny (model prog w) A (assign target env v) (fun _ s₂ => wpAny (model prog w) A (execs body env) (TurnEnd h₀ env.locals I oI (J (i + 1)) s R) (fun _ _ => False) s₂) (fun _ _ => False) { s with heap := h₁, toks := tk₁ })
    (done : ∀ m₁ news₁ h₁ tk₁, J items.size m₁ news₁ → Fr h₀ env.locals h₁ m₁ → News h₀ env.locals h₁ news₁ → R .next { s with heap := h₁, toks := tk₁ })
    {E : Value → Shared → Prop} :
    codeAny (model prog w) A (.forLoop target (.ref I) body [] env) (fun r s' => match r with | .ok f => R f s' | .error e => E e s') s :=
  loopG W hgo hsome J (fun b hb hn => by
    rcases List.mem_cons.mp hb with rfl | hb
    · exact absurd rfl hn
    · rw [List.mem_singleton.mp hb]; exact ⟨oax, hX⟩) st0 oI F N hI hJ (fun i v m₁ news₁ h₁ tk₁ oI _ a b c d e => turn i v m₁ news₁ h₁ tk₁ oI a b c d e) done

section
variable {E : Value → Shared → Prop} {target : PySem.Expr} {body : List Stmt} {ax : Addr} {oax : Obj} {items : Array Value} {R : Flow → Shared → Prop} {m : Str → Option Value} {news : List (Addr × Obj)}
theorem iter_list (hh : A.handled = none) (J : Nat → (Str → Option Value) → List (Addr × Obj) → Prop) (hl : s.heap.IsList ax items) (hX : ∀ i h m news, Fr h₀ env.locals h m → News h₀ env.locals h news → J i m news → h.get? ax = some oax)
    (F : Fr h₀ env.locals s.heap m) (N : News h₀ env.locals s.heap news) (hJ : J 0 m news)
    (turn : ∀ i v m₁ news₁ h₁ tk₁ I oI, items[i]? = some v → J i m₁ news₁ → Fr h₀ env.locals h₁ m₁ → News h₀ env.locals h₁ ((I, oI) :: news₁) → (∀ p ∈ news₁, p.1 ≠ I) →
      wpAny (model prog w) A (assign target env v) (fun _ s₂ => wpAny (model prog w) A (execs body env) (TurnEnd h₀ env.locals I oI (J (i + 1)) s R) (fun _ _ => False) s₂) (fun _ _ => False) { s with heap := h₁, toks := tk₁ })
    (done : ∀ m₁ news₁ h₁ tk₁, J items.size m₁ news₁ → Fr h₀ env.locals h₁ m₁ → News h₀ env.locals h₁ news₁ → R .next { s with heap := h₁, toks := tk₁ }) :
    wpAny (model prog w) A (pyIter (.ref ax)) (fun it s₂ => codeAny (model prog w) A (.forLoop target it body [] env) (fun r s' => match r with | .ok f => R f s' | .error e => cameBackBy (model prog w) A env E e s') s₂) E s := by
  refine wpAny_pyIter_list hl ?_
  have hlt : ax < s.heap.objs.size := by obtain ⟨o, e, _⟩ := hl; exact Heap.lt_size e
  refine loopW (s := { s with heap := s.heap.push { cls := .type "list_iterator", data := .fields #[.ref ax, .int 0 0] } }) (Walks.list hh s.heap.objs.size ax (Nat.ne_of_lt hlt) items) (fun i v s' Q E st q => letGo_listiter st.1 q) (fun i h st => (by obtain ⟨o, e, _⟩ := st.1; exact ⟨o, e⟩))
    J hX ⟨⟨_, Heap.get?_push_size _ rfl, rfl, rfl⟩, hl.push _⟩ _ (F.push _) (N.push F _) (fun p hp => Nat.ne_of_lt (Heap.lt_size (N p hp).1)) hJ (fun i v m₁ news₁ h₁ tk₁ oI a b c d e => wpAny_mono (turn i v m₁ news₁ h₁ tk₁ _ oI a b c d e) (fun _ _ q => wpAny_mono q (fun f s₃ z => (by cases f <;> exact z)) fun _ _ q => q) fun _ _ q => q) done
theorem iter_tuple (hh : A.handled = none) (J : Nat → (Str → Option Value) → List (Addr × Obj) → Prop) (hl : s.heap.IsTuple ax items) (hX : ∀ i h m news, Fr h₀ env.locals h m → News h₀ env.locals h news → J i m news → h.get? ax = some oax)
    (F : Fr h₀ env.locals s.heap m) (N : News h₀ env.locals s.heap news) (hJ : J 0 m news)
    (turn : ∀ i v m₁ news₁ h₁ tk₁ I oI, items[i]? = some v → J i m₁ news₁ → Fr h₀ env.locals h₁ m₁ → News h₀ env.locals h₁ ((I, oI) :: news₁) → (∀ p ∈ news₁, p.1 ≠ I) →
      wpAny (model prog w) A (assign target env v) (fun _ s₂ => wpAny (model prog w) A (execs body env) (TurnEnd h₀ env.locals I oI (J (i + 1)) s R) (fun _ _ => False) s₂) (fun _ _ => False) { s with heap := h₁, toks := tk₁ })
    (done : ∀ m₁ news₁ h₁ tk₁, J items.size m₁ news₁ → Fr h₀ env.locals h₁ m₁ → News h₀ env.locals h₁ news₁ → R .next { s with heap := h₁, toks := tk₁ }) :
    wpAny (model prog w) A (pyIter (.ref ax)) (fun it s₂ => codeAny (model prog w) A (.forLoop target it body [] env) (fun r s' => match r with | .ok f => R f s' | .error e => cameBackBy (model prog w) A env E e s') s₂) E s := by
  refine wpAny_pyIter_tuple hl ?_
  have hlt : ax < s.heap.objs.size := by obtain ⟨o, e, _⟩ := hl; exact Heap.lt_size e
  refine loopW (s := { s with heap := s.heap.push { cls := .type "tuple_iterator", data := .fields #[.ref ax, .int 0 0] } }) (Walks.tuple hh s.heap.objs.size ax (Nat.ne_of_lt hlt) items) (fun i v s' Q E st q => letGo_tupleiter st.1 q) (fun i h st => (by obtain ⟨o, e, _⟩ := st.1; exact ⟨o, e⟩))
    J hX ⟨⟨_, Heap.get?_push_size _ rfl, rfl, rfl⟩, ?_⟩ _ (F.push _) (N.push F _) (fun p hp => Nat.ne_of_lt (Heap.lt_size (N p hp).1)) hJ (fun i v m₁ news₁ h₁ tk₁ oI a b c d e => wpAny_mono (turn i v m₁ news₁ h₁ tk₁ _ oI a b c d e) (fun _ _ q => wpAny_mono q (fun f s₃ z => (by cases f <;> exact z)) fun _ _ q => q) fun _ _ q => q) done
  exact hl.at fun o e => Heap.get?_push_of_some _ e
/-- a range by ones, from a -/
theorem iter_range {r : Addr} {a b : Int} {t₀ u₀ v₀ : Tok} {n : Nat} (hh : A.handled = none) (J : Nat → (Str → Option Value) → List (Addr × Obj) → Prop) (hr : IsRange s.heap r a b 1 t₀ u₀ v₀) (hsmall : Builtin.Range.small a b 1 = true) (hn : Builtin.Range.rangeSize a b 1 = (n : Int))
    (F : Fr h₀ env.locals s.heap m) (N : News h₀ env.locals s.heap news) (hJ : J 0 m news)
    (turn : ∀ i t m₁ news₁ h₁ tk₁ I oI, i < n → J i m₁ news₁ → Fr h₀ env.locals h₁ m₁ → News h₀ env.locals h₁ ((I, oI) :: news₁) → (∀ p ∈ news₁, p.1 ≠ I) →
      wpAny (model prog w) A (assign target env (.int (a + i) t)) (fun _ s₂ => wpAny (model prog w) A (execs body env) (TurnEnd h₀ env.locals I oI (J (i + 1)) s R) (fun _ _ => False) s₂) (fun _ _ => False) { s with heap := h₁, toks := tk₁ })
    (done : ∀ m₁ news₁ h₁ tk₁, J n m₁ news₁ → Fr h₀ env.locals h₁ m₁ → News h₀ env.locals h₁ news₁ → R .next { s with heap := h₁, toks := tk₁ }) :
    wpAny (model prog w) A (pyIter (.ref r)) (fun it s₂ => codeAny (model prog w) A (.forLoop target it body [] env) (fun r s' => match r with | .ok f => R f s' | .error e => cameBackBy (model prog w) A env E e s') s₂) E s := by
  refine wpAny_pyIter_range hr hsmall ?_
  refine loopG (s := { s with heap := s.heap.push _ }) (Walks.range hh s.heap.objs.size a 1 n) (fun i v s' Q E st q => ?_) (fun i h st => ⟨_, st⟩) J (fun b hb hn => absurd (List.mem_singleton.mp hb) hn)
    (by show IsRangeIter _ _ _ _ _; rw [hn]; simpa using Heap.get?_push_size _ rfl) _ (F.push _) (N.push F _) (fun p hp => Nat.ne_of_lt (Heap.lt_size (N p hp).1)) hJ (fun i v m₁ news₁ h₁ tk₁ oI hi hv a b c d => ?_) done
  · unfold letOwnedTupleGo
    cases target <;> first
      | exact wpAny_pure q
      | (cases v <;> first
          | exact wpAny_pure q
          | (refine wpAny_bind (wpAny_load st ?_)
             exact wpAny_pure q)
          | (refine wpAny_bind (wpAny_load st ?_)
             dsimp only
             rw [if_neg (by simp)]
             exact wpAny_pure q))
  · obtain ⟨t, rfl⟩ := hv
    have := turn i t m₁ news₁ h₁ tk₁ _ oI hi a b c d
    rw [Int.mul_one]
    exact wpAny_mono this (fun _ _ q => wpAny_mono q (fun f s₃ z => (by cases f <;> exact z)) fun _ _ q => q) fun _ _ q => q
end
end
end Mine

end

open PySem PySem.W PyProof.Rows in
example : True := by
  w_top off
  trivial
open PySem PySem.W PyProof.Rows in
example {M : Model} {A : Around} {E : Value → Shared → Prop} {s : Shared} {Q : Unit → Shared → Prop} (h : Q () s) : wpAny M A (pure ()) Q E s := by
  first
    | (walk1; exact h)
    | exact wpAny_pure h
section
open PySem PySem.W PyProof.Rows PySem.Calls
set_option Elab.async false
set_option maxRecDepth 100000
set_option maxHeartbeats 4000000
set_option pp.deepTerms.threshold 5
set_option pp.maxSteps 2000
namespace Mine
-- HEAD
example : PySem.Challenge.rw_vk0007_01 = PySem.Challenge.rw_vk0007_01 ∧ hd.heap_39 = hd.heap_39 := by
  k_fill
  exact ⟨rfl, rfl⟩
local macro_rules | `(tactic| walk_at "getAttr ref") => `(tactic| k_dflt (refine items_at (by assumption) (by assumption) (SetIs.stays (by assumption) (Fr.keep (by assumption))) ?_))
local macro_rules | `(tactic| walk_at "getMethod ref") => `(tactic| k_dflt (refine' meth_at ?f ?g ?s ?k1 ?k2 ?k3 ?k4 ?_; (case f => assumption); (case g => assumption); (case s => exact SetIs.stays (by assumption) (Fr.keep (by assumption))); (case k1 => k_is); (case k2 => k_is); (case k3 => k_is); (case k4 => decide)))
local macro_rules | `(tactic| walk_at "eval Name") => `(tactic| k_dflt (first
  | (refine' nameX_L ?hf ?hv ?_; (case hf => assumption); (case hv => first | (with_unfolding_all rfl) | (with_unfolding_all assumption)))
  | (refine name_B (by assumption) (by assumption) (by k_is) (by rfl) (by decide) ?_)
  | (refine name_G (by assumption) (by assumption) (by k_is) ?_)))
-- BODY
section
variable {w : World} {A : Around} {s : Shared} {mg mb : Str → Option Value} {B : Heap} {Q : Value → Shared → Prop} {E : Value → Shared → Prop}

theorem update_spec {x l a : Addr} {vs : Array Value} {ep : Nat} {ds rs : List Nat} {ws : Array Value} {tx : Bool}
    (G : Gr w mg mb B) (hB : Heap.StaysIn B s.heap) (hlB : B.get? l = none) (R : Rm A 3) (S : SetIs s.heap x l) (hl : s.heap.get? l = some (listOf vs ep)) (hT : Ths tx ds vs.toList) (hs : ds.Pairwise (· < ·))
    (ha : s.heap.IsList a ws) (hal : a ≠ l) (hW : Ths tx rs ws.toList) (hlen : ds.length + rs.length < 900)
    (h : ∀ h' tk vs' ep', Off [l] s.heap h' → h'.get? l = some (listOf vs' ep') → Ths tx (rs.foldl ins ds) vs'.toList → Q .none { s with heap := h', toks := tk }) :
    wpAny (model PySem.Challenge.rw_vk0007_01.row.prog w) A (call (.ref 205) [.ref x, .ref a]) Q E s := by
  refine enter1 [("self", .ref x), ("iterable", .ref a)] (G.K.keeps hB) (G.T.nolimit.keeps hB) (by k_is) (by k_is) R.room (BindsTo.of_eq rfl) rfl hl ?_ (by decide)
  intro L h₁ F N
  have hB₀ : Heap.StaysIn B (hideAll s.heap [l]) := stays_hide hB (by intro a ha; rw [List.mem_singleton.mp ha]; exact hlB)
  have G₀ := G.keeps hB₀
  have KX := G₀.K
  have S₀ := S.hide hl
  have hsz : rs.length = ws.size := by rw [← Array.length_toList]; exact hW.len
  obtain ⟨oa, ha1, ha2, na, ha3⟩ := ha
  have ha₀ : (hideAll s.heap [l]).get? a = some oa := hideAll_get _ ha1 (fun q => hal (List.mem_singleton.mp q))
  walk1
  refine wpAny_For ?_
  walk1
  refine iter_list (R.hh) (fun i m news => ∃ vs' ep', m "self" = some (.ref x) ∧ news = [(l, listOf vs' ep')] ∧ Ths tx ((rs.take i).foldl ins ds) vs'.toList) ⟨_, F.keep _ _ ha₀, ha2, na, ha3⟩ (fun _ h _ _ F _ _ => F.keep _ _ ha₀) F N ⟨vs, ep, rfl, rfl, hT⟩ ?_ ?_
  · rintro i v m₁ news₁ h₂ tk₂ I oI hi ⟨vs', ep', h1, rfl, h3⟩ F₂ N₂ hI
    clear F N
    repeat' walk1
    rename Fr _ _ _ _ => F₃
    rename News _ _ _ _ => N₃
    clear F₂ N₂
    obtain ⟨r, hr1, hr2⟩ := hW.get (i := i) (v := v) (by simpa using hi)
    have hln := @insAll_len (rs.take i) ds
    have hlt : (rs.take i).length ≤ rs.length := by rw [List.length_take]; omega
    refine add_spec G (up F₃ hB₀) hlB (R.deeper _) (S₀.stays F₃.keep) (N₃ _ (.tail _ (.head _))).1 h3 hr2 (insAll_sorted hs) (by omega) ?_
    intro h₄ tk₄ vs₄ ep₄ k₄ e₄ T₄
    have hlI : l ≠ I := hI _ (.head _)
    have F₄ := fr_off1 F₃ N₃ (.tail _ (.head _)) k₄
    have N₄ := news_put (pre := [(I, oI)]) (post := []) N₃ k₄ e₄ (fun p hp => by rw [List.mem_singleton.mp hp]; exact hlI.symm) (fun _ hp => nomatch hp)
    repeat' walk1
    exact TurnEnd.intro F₄ N₄ (fun p hp => by rw [List.mem_singleton.mp hp]; exact hlI) ⟨vs₄, ep₄, h1, rfl, by rw [foldl_snoc _ _ _ hr1]; exact T₄⟩
  · rintro m₁ news₁ h₂ tk₂ ⟨vs', ep', h1, rfl, h3⟩ F₂ N₂
    rw [← hsz, List.take_length] at h3
    repeat' walk1
    exact h _ _ _ _ (fr_hide F₂) (N₂ _ (.head _)).1 h3
end
end Mine

end

open PySem PySem.W PyProof.Rows in
example : True := by
  w_top off
  trivial
open PySem PySem.W PyProof.Rows in
example {M : Model} {A : Around} {E : Value → Shared → Prop} {s : Shared} {Q : Unit → Shared → Prop} (h : Q () s) : wpAny M A (pure ()) Q E s := by
  first
    | (walk1; exact h)
    | exact wpAny_pure h
section
open PySem PySem.W PyProof.Rows PySem.Calls
set_option Elab.async false
set_option maxRecDepth 100000
set_option maxHeartbeats 4000000
set_option pp.deepTerms.threshold 5
set_option pp.maxSteps 2000
namespace Mine
-- HEAD
example : PySem.Challenge.rw_vk0007_01 = PySem.Challenge.rw_vk0007_01 ∧ hd.heap_39 = hd.heap_39 := by
  k_fill
  exact ⟨rfl, rfl⟩
local macro_rules | `(tactic| walk_at "getAttr ref") => `(tactic| k_dflt (refine items_at (by assumption) (by assumption) (SetIs.stays (by assumption) (Fr.keep (by assumption))) ?_))
local macro_rules | `(tactic| walk_at "getMethod ref") => `(tactic| k_dflt (refine' meth_at ?f ?g ?s ?k1 ?k2 ?k3 ?k4 ?_; (case f => assumption); (case g => assumption); (case s => exact SetIs.stays (by assumption) (Fr.keep (by assumption))); (case k1 => k_is); (case k2 => k_is); (case k3 => k_is); (case k4 => decide)))
local macro_rules | `(tactic| walk_at "eval Name") => `(tactic| k_dflt (first
  | (refine' nameX_L ?hf ?hv ?_; (case hf => assumption); (case hv => first | (with_unfolding_all rfl) | (with_unfolding_all assumption)))
  | (refine name_B (by assumption) (by assumption) (by k_is) (by rfl) (by decide) ?_)
  | (refine name_G (by assumption) (by assumption) (by k_is) ?_)))
-- BODY
section
variable {w : World} {A : Around} {s : Shared} {mg mb : Str → Option Value} {B : Heap} {Q : Value → Shared → Prop} {E : Value → Shared → Prop}

theorem make_spec {a : Addr} {rs : List Nat} {ws : Array Value} {tx : Bool}
    (G : Gr w mg mb B) (hB : Heap.StaysIn B s.heap) (R : Rm A 5)
    (ha : s.heap.IsList a ws) (hW : Ths tx rs ws.toList) (hlen : rs.length < 900)
    (h : ∀ h' tk x dx l hsh tk' n vs' ep', Heap.StaysIn s.heap h' → s.heap.objs.size ≤ dx → s.heap.objs.size ≤ x → s.heap.objs.size ≤ l → h'.get? x = some (instObj 306 dx) → h'.get? dx = some (itemsDict hsh tk' l n) → h'.get? l = some (listOf vs' ep') → Ths tx (rs.foldl ins []) vs'.toList → Q (.ref x) { s with heap := h', toks := tk }) :
    wpAny (model PySem.Challenge.rw_vk0007_01.row.prog w) A (call (.ref 306) [.ref a]) Q E s := by
  have G₁ := G.keeps hB
  refine wpAny_call ?_
  have hm : makesIn (hd.heap_39 w.params) 306 = true := by k_is
  have hi : findIn (hd.heap_39 w.params) (.ref 306) "__init__" = some (some (.ref 37)) := by k_is
  have hf : isFn (hd.heap_39 w.params) (.ref 37) = true := by k_is
  obtain ⟨hh, g, d, t, os⟩ := s
  refine make_core (makes_of G₁.K hm) (looks_findIn G₁.K hi) (fun self => bind_fn G₁.K self (beq_iff_eq.mp hf)) (.inl rfl) ?_
  have k₁ : Heap.StaysIn hh ((hh.push emptyDict).push (instObj 306 hh.objs.size)) := fun b o e => Heap.get?_push_of_some _ (Heap.get?_push_of_some _ e)
  have hdx : ((hh.push emptyDict).push (instObj 306 hh.objs.size)).get? hh.objs.size = some (dictOf [] 0) := Heap.get?_push_of_some _ (Heap.get?_push_size _ rfl)
  have hx : ((hh.push emptyDict).push (instObj 306 hh.objs.size)).get? (hh.objs.size + 1) = some (instObj 306 hh.objs.size) := by
    have := Heap.get?_push_size (hh.push emptyDict) (o := instObj 306 hh.objs.size) rfl
    rwa [Heap.size_push] at this
  generalize hh2 : (hh.push emptyDict).push (instObj 306 hh.objs.size) = hm2 at *
  refine enterC [(hh.objs.size + 1, instObj 306 hh.objs.size), (hh.objs.size, dictOf [] 0)] [("self", .ref (hh.objs.size + 1)), ("iterable", .ref a)] (G₁.K.keeps k₁) (G₁.T.nolimit.keeps k₁) (by k_is) (by k_is) (R.make 306 [.ref a]).room ?_ rfl ?_ ?_ (by decide)
  · exact BindsTo.of_defaults rfl (G₁.K.keeps k₁ 30 _ (by k_is)) rfl rfl rfl
  · intro p hp
    rcases List.mem_cons.mp hp with rfl | hp
    · exact hx
    · rw [List.mem_singleton.mp hp]; exact hdx
  intro L h₁ F N
  dsimp only [List.map] at F N
  have hW0 : ∀ {g : Heap}, Heap.StaysIn g hh → ∀ a ∈ [hh.objs.size + 1, hh.objs.size], g.get? a = none := fun k a ha => by
    rcases List.mem_cons.mp ha with rfl | ha
    · exact none_of_ge k (Nat.le_succ _)
    · rw [List.mem_singleton.mp ha]; exact none_of_ge k (Nat.le_refl _)
  have hB₀ : Heap.StaysIn B (hideAll hm2 [hh.objs.size + 1, hh.objs.size]) := stays_hide (fun b o e => k₁ b o (hB b o e)) (hW0 hB)
  have k₀ : Heap.StaysIn hh (hideAll hm2 [hh.objs.size + 1, hh.objs.size]) := stays_hide k₁ (hW0 fun _ _ e => e)
  have G₀ := G.keeps hB₀
  have KX := G₀.K
  repeat' walk1
  rename Fr _ _ _ _ => F₂
  rename News _ _ _ _ => N₂
  rename _ < _ ∧ _ < _ => l1
  have hl0 := (N₂ _ (.head _)).2.2
  obtain ⟨oa, ha1, ha2⟩ := ha
  refine update_spec G (up F₂ hB₀) (none_of hB₀ hl0) ((R.make 306 [.ref a]).deeper _) ⟨_, _, _, _, (N₂ _ (.tail _ (.head _))).1, (N₂ _ (.tail _ (.tail _ (.head _)))).1⟩ (N₂ _ (.head _)).1 .nil .nil (upL F₂ (upS k₀ ⟨oa, ha1, ha2⟩)) (fun e => ?_) hW (by simpa using hlen) ?_
  · have q := k₀ _ _ ha1
    rw [e] at q
    exact absurd (q.symm.trans hl0) (by simp)
  intro h₄ tk₄ vs₄ ep₄ k₄ e₄ T₄
  repeat' walk1
  refine ⟨rfl, ?_⟩
  exact h h₄ tk₄ (hh.objs.size + 1) hh.objs.size _ _ _ _ vs₄ ep₄ (stays_off (up F₂ k₀) k₄ (fun b hb => by rw [List.mem_singleton.mp hb]; exact none_of k₀ hl0)) (Nat.le_refl _) (Nat.le_succ _) (Nat.le_of_lt l1.2)
    (k₄ _ _ (fun q => Nat.ne_of_lt l1.1 (List.mem_singleton.mp q)) (N₂ _ (.tail _ (.head _))).1) (k₄ _ _ (fun q => Nat.ne_of_lt l1.2 (List.mem_singleton.mp q)) (N₂ _ (.tail _ (.tail _ (.head _)))).1) e₄ T₄
end
end Mine

end

open PySem PySem.W PyProof.Rows in
example : True := by
  w_top off
  trivial
open PySem PySem.W PyProof.Rows in
example {M : Model} {A : Around} {E : Value → Shared → Prop} {s : Shared} {Q : Unit → Shared → Prop} (h : Q () s) : wpAny M A (pure ()) Q E s := by
  first
    | (walk1; exact h)
    | exact wpAny_pure h
section
open PySem PySem.W PyProof.Rows PySem.Calls
set_option Elab.async false
set_option maxRecDepth 100000
set_option maxHeartbeats 4000000
set_option pp.deepTerms.threshold 5
set_option pp.maxSteps 2000
namespace Mine
-- HEAD
example : PySem.Challenge.rw_vk0007_01 = PySem.Challenge.rw_vk0007_01 ∧ hd.heap_39 = hd.heap_39 := by
  k_fill
  exact ⟨rfl, rfl⟩
local macro_rules | `(tactic| walk_at "getAttr ref") => `(tactic| k_dflt (refine items_at (by assumption) (by assumption) (SetIs.stays (by assumption) (Fr.keep (by assumption))) ?_))
local macro_rules | `(tactic| walk_at "getMethod ref") => `(tactic| k_dflt (refine' meth_at ?f ?g ?s ?k1 ?k2 ?k3 ?k4 ?_; (case f => assumption); (case g => assumption); (case s => exact SetIs.stays (by assumption) (Fr.keep (by assumption))); (case k1 => k_is); (case k2 => k_is); (case k3 => k_is); (case k4 => decide)))
local macro_rules | `(tactic| walk_at "eval Name") => `(tactic| k_dflt (first
  | (refine' nameX_L ?hf ?hv ?_; (case hf => assumption); (case hv => first | (with_unfolding_all rfl) | (with_unfolding_all assumption)))
  | (refine name_B (by assumption) (by assumption) (by k_is) (by rfl) (by decide) ?_)
  | (refine name_G (by assumption) (by assumption) (by k_is) ?_)))
-- BODY
section
variable {w : World} {A : Around} {s : Shared} {mg mb : Str → Option Value} {B : Heap} {Q : Value → Shared → Prop} {E : Value → Shared → Prop}

theorem update_nil {x : Addr}
    (G : Gr w mg mb B) (hB : Heap.StaysIn B s.heap) (R : Rm A 3)
    (h : ∀ h' tk, Heap.StaysIn s.heap h' → Q .none { s with heap := h', toks := tk }) :
    wpAny (model PySem.Challenge.rw_vk0007_01.row.prog w) A (call (.ref 205) [.ref x, .ref 29]) Q E s := by
  refine enter0 [("self", .ref x), ("iterable", .ref 29)] (G.K.keeps hB) (G.T.nolimit.keeps hB) (by k_is) (by k_is) R.room (BindsTo.of_eq rfl) rfl ?_ (by decide)
  intro L h₁ F N
  have G₀ := G.keeps hB
  have KX := G₀.K
  have h29 := G₀.K 29 _ (by k_is)
  walk1
  refine wpAny_For ?_
  walk1
  refine iter_tuple (R.hh) (fun i m news => news = []) ⟨_, F.keep _ _ h29, rfl, _, rfl⟩ (fun _ h _ _ F _ _ => F.keep _ _ h29) F N rfl ?_ ?_
  · rintro i v m₁ news₁ h₂ tk₂ I oI hi
    simp at hi
  · rintro m₁ news₁ h₂ tk₂ rfl F₂ N₂
    repeat' walk1
    exact h _ _ F₂.keep

theorem make0_spec
    (G : Gr w mg mb B) (hB : Heap.StaysIn B s.heap) (R : Rm A 5)
    (h : ∀ h' tk x dx l hsh tk' n, Heap.StaysIn s.heap h' → s.heap.objs.size ≤ dx → s.heap.objs.size ≤ x → s.heap.objs.size ≤ l → h'.get? x = some (instObj 306 dx) → h'.get? dx = some (itemsDict hsh tk' l n) → h'.get? l = some (listOf #[] 0) → Q (.ref x) { s with heap := h', toks := tk }) :
    wpAny (model PySem.Challenge.rw_vk0007_01.row.prog w) A (call (.ref 306) []) Q E s := by
  have G₁ := G.keeps hB
  refine wpAny_call ?_
  have hm : makesIn (hd.heap_39 w.params) 306 = true := by k_is
  have hi : findIn (hd.heap_39 w.params) (.ref 306) "__init__" = some (some (.ref 37)) := by k_is
  have hf : isFn (hd.heap_39 w.params) (.ref 37) = true := by k_is
  obtain ⟨hh, g, d, t, os⟩ := s
  refine make_core (makes_of G₁.K hm) (looks_findIn G₁.K hi) (fun self => bind_fn G₁.K self (beq_iff_eq.mp hf)) (.inl rfl) ?_
  have k₁ : Heap.StaysIn hh ((hh.push emptyDict).push (instObj 306 hh.objs.size)) := fun b o e => Heap.get?_push_of_some _ (Heap.get?_push_of_some _ e)
  have hdx : ((hh.push emptyDict).push (instObj 306 hh.objs.size)).get? hh.objs.size = some (dictOf [] 0) := Heap.get?_push_of_some _ (Heap.get?_push_size _ rfl)
  have hx : ((hh.push emptyDict).push (instObj 306 hh.objs.size)).get? (hh.objs.size + 1) = some (instObj 306 hh.objs.size) := by
    have := Heap.get?_push_size (hh.push emptyDict) (o := instObj 306 hh.objs.size) rfl
    rwa [Heap.size_push] at this
  generalize hh2 : (hh.push emptyDict).push (instObj 306 hh.objs.size) = hm2 at *
  refine enterC [(hh.objs.size + 1, instObj 306 hh.objs.size), (hh.objs.size, dictOf [] 0)] [("self", .ref (hh.objs.size + 1)), ("iterable", .ref 29)] (G₁.K.keeps k₁) (G₁.T.nolimit.keeps k₁) (by k_is) (by k_is) (R.make 306 []).room ?_ rfl ?_ ?_ (by decide)
  · exact BindsTo.of_defaults rfl (G₁.K.keeps k₁ 30 _ (by k_is)) rfl rfl rfl
  · intro p hp
    rcases List.mem_cons.mp hp with rfl | hp
    · exact hx
    · rw [List.mem_singleton.mp hp]; exact hdx
  intro L h₁ F N
  dsimp only [List.map] at F N
  have hW0 : ∀ {g : Heap}, Heap.StaysIn g hh → ∀ a ∈ [hh.objs.size + 1, hh.objs.size], g.get? a = none := fun k a ha => by
    rcases List.mem_cons.mp ha with rfl | ha
    · exact none_of_ge k (Nat.le_succ _)
    · rw [List.mem_singleton.mp ha]; exact none_of_ge k (Nat.le_refl _)
  have hB₀ : Heap.StaysIn B (hideAll hm2 [hh.objs.size + 1, hh.objs.size]) := stays_hide (fun b o e => k₁ b o (hB b o e)) (hW0 hB)
  have k₀ : Heap.StaysIn hh (hideAll hm2 [hh.objs.size + 1, hh.objs.size]) := stays_hide k₁ (hW0 fun _ _ e => e)
  have G₀ := G.keeps hB₀
  have KX := G₀.K
  repeat' walk1
  rename Fr _ _ _ _ => F₂
  rename News _ _ _ _ => N₂
  rename _ < _ ∧ _ < _ => l1
  refine update_nil G (up F₂ hB₀) ((R.make 306 []).deeper _) ?_
  intro h₄ tk₄ k₄
  repeat' walk1
  refine ⟨rfl, ?_⟩
  exact h h₄ tk₄ (hh.objs.size + 1) hh.objs.size _ _ _ _ (fun b o e => k₄ b o (F₂.keep b o (k₀ b o e))) (Nat.le_refl _) (Nat.le_succ _) (Nat.le_of_lt l1.2)
    (k₄ _ _ (N₂ _ (.tail _ (.head _))).1) (k₄ _ _ (N₂ _ (.tail _ (.tail _ (.head _)))).1) (k₄ _ _ (N₂ _ (.head _)).1)
end
end Mine

end

open PySem PySem.W PyProof.Rows in
example : True := by
  w_top off
  trivial
open PySem PySem.W PyProof.Rows in
example {M : Model} {A : Around} {E : Value → Shared → Prop} {s : Shared} {Q : Unit → Shared → Prop} (h : Q () s) : wpAny M A (pure ()) Q E s := by
  first
    | (walk1; exact h)
    | exact wpAny_pure h
section
open PySem PySem.W PyProof.Rows PySem.Calls
set_option Elab.async false
set_option maxRecDepth 100000
set_option maxHeartbeats 4000000
set_option pp.deepTerms.threshold 5
set_option pp.maxSteps 2000
namespace Mine
-- HEAD
example : PySem.Challenge.rw_vk0007_01 = PySem.Challenge.rw_vk0007_01 ∧ hd.heap_39 = hd.heap_39 := by
  k_fill
  exact ⟨rfl, rfl⟩
local macro_rules | `(tactic| walk_at "getAttr ref") => `(tactic| k_dflt (refine items_at (by assumption) (by assumption) (SetIs.stays (by assumption) (Fr.keep (by assumption))) ?_))
local macro_rules | `(tactic| walk_at "getMethod ref") => `(tactic| k_dflt (refine' meth_at ?f ?g ?s ?k1 ?k2 ?k3 ?k4 ?_; (case f => assumption); (case g => assumption); (case s => exact SetIs.stays (by assumption) (Fr.keep (by assumption))); (case k1 => k_is); (case k2 => k_is); (case k3 => k_is); (case k4 => decide)))
local macro_rules | `(tactic| walk_at "eval Name") => `(tactic| k_dflt (first
  | (refine' nameX_L ?hf ?hv ?_; (case hf => assumption); (case hv => first | (with_unfolding_all rfl) | (with_unfolding_all assumption)))
  | (refine name_B (by assumption) (by assumption) (by k_is) (by first | exact boot_reversed | exact boot_list | exact boot_range | exact boot_tuple | rfl) (by decide) ?_)
  | (refine name_G (by assumption) (by assumption) (by k_is) ?_)))
-- BODY
section
variable {w : World} {A : Around} {s : Shared} {mg mb : Str → Option Value} {B : Heap} {Q : Value → Shared → Prop} {E : Value → Shared → Prop}

theorem call_iter_list {l : Addr} {items : Array Value} (hl : s.heap.IsList l items) (h : Q (.ref s.heap.objs.size) { s with heap := s.heap.push { cls := .type "list_iterator", data := .fields #[.ref l, .int 0 0] } }) :
    wpAny (model PySem.Challenge.rw_vk0007_01.row.prog w) A (call (.builtin "iter") [.ref l]) Q E s := by
  refine call_function_entry (by decide +kernel) (by decide +kernel) kdk_entry_iter (kdk_args_iter _) ?_
  unfold Builtin.«iter»
  refine wpAny_bind (m := someArgs "iter" 1 2 _) (wpAny_of_eq (a := [Value.ref l]) (by first | rfl | kernel_rfl!) ?_)
  dsimp only
  exact wpAny_bind (wpAny_pyIter_list hl (wpAny_pure ⟨_, rfl, h⟩))

theorem len_spec {x l : Addr} {vs : Array Value}
    (G : Gr w mg mb B) (hB : Heap.StaysIn B s.heap) (R : Rm A 1) (S : SetIs s.heap x l) (hl : s.heap.IsList l vs) (hlen : vs.size < 1000)
    (h : ∀ h' tk t, Heap.StaysIn s.heap h' → Q (.int vs.size t) { s with heap := h', toks := tk }) :
    wpAny (model PySem.Challenge.rw_vk0007_01.row.prog w) A (call (.ref 44) [.ref x]) Q E s := by
  refine enter0 [("self", .ref x)] (G.K.keeps hB) (G.T.nolimit.keeps hB) (by k_is) (by k_is) R.room (BindsTo.of_eq rfl) rfl ?_ (by decide)
  intro L h₁ F N
  have G₀ := G.keeps hB
  have KX := G₀.K
  repeat' walk1
  exact h _ _ _ F.keep

theorem iter_spec {x l : Addr} {vs : Array Value}
    (G : Gr w mg mb B) (hB : Heap.StaysIn B s.heap) (R : Rm A 1) (S : SetIs s.heap x l) (hl : s.heap.IsList l vs)
    (h : ∀ h' tk I, Heap.StaysIn s.heap h' → h'.get? I = some { cls := .type "list_iterator", data := .fields #[.ref l, .int 0 0] } → s.heap.get? I = none → Q (.ref I) { s with heap := h', toks := tk }) :
    wpAny (model PySem.Challenge.rw_vk0007_01.row.prog w) A (call (.ref 58) [.ref x]) Q E s := by
  refine enter0 [("self", .ref x)] (G.K.keeps hB) (G.T.nolimit.keeps hB) (by k_is) (by k_is) R.room (BindsTo.of_eq rfl) rfl ?_ (by decide)
  intro L h₁ F N
  have G₀ := G.keeps hB
  have KX := G₀.K
  repeat' walk1
  refine call_iter_list (upL F hl) ?_
  exact h _ _ _ (fun b o e => Heap.get?_push_of_some _ (F.keep b o e)) (Heap.get?_push_size _ rfl) (none_of_ge F.keep (Nat.le_refl _))

theorem rev_spec {x l : Addr} {vs : Array Value}
    (G : Gr w mg mb B) (hB : Heap.StaysIn B s.heap) (R : Rm A 1) (S : SetIs s.heap x l) (hl : s.heap.IsList l vs)
    (h : ∀ h' tk I, Heap.StaysIn s.heap h' → h'.get? I = some (revObj l ((vs.size : Int) - 1)) → s.heap.get? I = none → Q (.ref I) { s with heap := h', toks := tk }) :
    wpAny (model PySem.Challenge.rw_vk0007_01.row.prog w) A (call (.ref 65) [.ref x]) Q E s := by
  refine enter0 [("self", .ref x)] (G.K.keeps hB) (G.T.nolimit.keeps hB) (by k_is) (by k_is) R.room (BindsTo.of_eq rfl) rfl ?_ (by decide)
  intro L h₁ F N
  have G₀ := G.keeps hB
  have KX := G₀.K
  repeat' walk1
  rename Fr _ _ _ _ => F₂
  rename News _ _ _ _ => N₂
  exact h _ _ _ F₂.keep (N₂ _ (.head _)).1 (N₂ _ (.head _)).2.2

/-! the built-ins that ask a SortedSet -/
section
variable {h₀ : Heap} {L : Addr} {m : Str → Option Value} {x l : Addr} {vs : Array Value}
theorem len_set (F : Fr h₀ L s.heap m) (G : Gr w mg mb B) (hB : Heap.StaysIn B h₀) (R : Rm A 2) (S : SetIs s.heap x l) (hl : s.heap.IsList l vs) (hlen : vs.size < 1000)
    (h : ∀ h' tk t, Heap.StaysIn s.heap h' → Q (.int vs.size t) { s with heap := h', toks := tk }) :
    wpAny (model PySem.Challenge.rw_vk0007_01.row.prog w) A (call (.builtin "len") [.ref x]) Q E s := by
  have hs : findIn (hd.heap_39 w.params) (.ref 306) "__len__" = some (some (.ref 44)) := by k_is
  have hf : isFn (hd.heap_39 w.params) (.ref 44) = true := by k_is
  obtain ⟨dx, hsh, tk, n, h1, h2⟩ := id S
  exact len_K (C := 306) (od := some (itemsDict hsh tk l n)) F (G.keeps hB).K ⟨h1, rfl, rfl, h2⟩ hs hf (len_spec G (up F hB) R.in1 S hl hlen fun h' tk t k => ⟨⟨by omega, by omega⟩, h _ _ _ k⟩)
theorem truthy_set {Q : Bool → Shared → Prop} (F : Fr h₀ L s.heap m) (G : Gr w mg mb B) (hB : Heap.StaysIn B h₀) (R : Rm A 2) (S : SetIs s.heap x l) (hl : s.heap.IsList l vs) (hlen : vs.size < 1000)
    (h : ∀ h' tk, Heap.StaysIn s.heap h' → Q (vs.size != 0) { s with heap := h', toks := tk }) :
    wpAny (model PySem.Challenge.rw_vk0007_01.row.prog w) A (truthy (.ref x)) Q E s := by
  have hs : findIn (hd.heap_39 w.params) (.ref 306) "__bool__" = some none := by k_is
  have hln : findIn (hd.heap_39 w.params) (.ref 306) "__len__" = some (some (.ref 44)) := by k_is
  have hf : isFn (hd.heap_39 w.params) (.ref 44) = true := by k_is
  obtain ⟨dx, hsh, tk, n, h1, h2⟩ := id S
  have I : InstAt s.heap x (instObj 306 dx) 306 (some (itemsDict hsh tk l n)) := ⟨h1, rfl, rfl, h2⟩
  have X := (G.keeps (up F hB)).K
  unfold truthy
  refine wpAny_bind (m := callSpecial? (.ref x) (Str.ofString "__bool__")) (wpAny_bind (wpAny_bind (I.type.here ((looks_findIn X hs).here (wpAny_pure ?_)))))
  refine wpAny_bind (m := specialOf (.ref x) (Str.ofString "__len__")) (wpAny_bind (I.type.here ((looks_findIn X hln).here ?_)))
  show wpAny _ _ (runValue _ >>= _) _ _ _
  refine wpAny_bind (wpAny_runValue (codeAny_builtin entry_len ?_))
  rw [Around.under_plainId plain_len]
  unfold Builtin.«len»
  refine wpAny_bind (m := oneArg "len" _) (wpAny_pure ?_)
  refine wpAny_bind (m := callSpecial? (.ref x) (Str.ofString "__len__")) (special_fn X I hln (beq_iff_eq.mp hf) (len_spec G (up F hB) R.in1 S hl hlen fun h' tk t k => ?_))
  dsimp only
  refine wpAny_bind (wpAny_holding (wpAny_pure ?_))
  refine wpAny_bind (wpAny_letGo ?_)
  show wpAny _ _ (if (vs.size : Int) < 0 then _ else _) _ _ _
  rw [if_neg (by omega)]
  show wpAny _ _ (if (vs.size : Int) ≥ 2 ^ 63 then _ else _) _ _ _
  rw [if_neg (by omega)]
  refine wpAny_bind (wpAny_mkInt (wpAny_pure (wpAny_pure ?_)))
  have e : ((vs.size : Int) != 0) = (vs.size != 0) := by rw [Bool.eq_iff_iff]; simp
  rw [e]
  exact h _ _ k
theorem contains_set {r : Nat} {v : Value} {ds : List Nat} {tx : Bool} {Q : Bool → Shared → Prop} (F : Fr h₀ L s.heap m) (G : Gr w mg mb B) (hB : Heap.StaysIn B h₀) (R : Rm A 2) (S : SetIs s.heap x l) (hl : s.heap.IsList l vs) (hT : Ths tx ds vs.toList) (hv : IsTh tx r v) (hs : ds.Pairwise (· < ·)) (hlen : ds.length < 1000)
    (h : ∀ h' tk, Heap.StaysIn s.heap h' → Q (ds.contains r) { s with heap := h', toks := tk }) :
    wpAny (model PySem.Challenge.rw_vk0007_01.row.prog w) A (contains (.ref x) v) Q E s := by
  have hc : findIn (hd.heap_39 w.params) (.ref 306) "__contains__" = some (some (.ref 184)) := by k_is
  have hf : isFn (hd.heap_39 w.params) (.ref 184) = true := by k_is
  obtain ⟨dx, hsh, tk, n, h1, h2⟩ := id S
  exact contains_K (C := 306) (od := some (itemsDict hsh tk l n)) F (G.keeps hB).K ⟨h1, rfl, rfl, h2⟩ hc hf (contains_spec G (up F hB) R S hl hT hv hs hlen fun h' tk k => wpAny_truthy_bool (h _ _ k))
end
end
end Mine

end

open PySem PySem.W PyProof.Rows in
example : True := by
  w_top off
  trivial
open PySem PySem.W PyProof.Rows in
example {M : Model} {A : Around} {E : Value → Shared → Prop} {s : Shared} {Q : Unit → Shared → Prop} (h : Q () s) : wpAny M A (pure ()) Q E s := by
  first
    | (walk1; exact h)
    | exact wpAny_pure h
section
open PySem PySem.W PyProof.Rows PySem.Calls
set_option Elab.async false
set_option maxRecDepth 100000
set_option maxHeartbeats 4000000
set_option linter.unusedVariables false
set_option pp.deepTerms.threshold 5
set_option pp.maxSteps 2000
namespace Mine
-- HEAD
example : PySem.Challenge.rw_vk0007_01 = PySem.Challenge.rw_vk0007_01 ∧ hd.heap_39 = hd.heap_39 := by
  k_fill
  exact ⟨rfl, rfl⟩
local macro_rules | `(tactic| walk_at "getAttr ref") => `(tactic| k_dflt (refine items_at (by assumption) (by assumption) (SetIs.stays (by assumption) (Fr.keep (by assumption))) ?_))
local macro_rules | `(tactic| walk_at "getMethod ref") => `(tactic| k_dflt (refine' meth_at ?f ?g ?s ?k1 ?k2 ?k3 ?k4 ?_; (case f => assumption); (case g => assumption); (case s => exact SetIs.stays (by assumption) (Fr.keep (by assumption))); (case k1 => k_is); (case k2 => k_is); (case k3 => k_is); (case k4 => decide)))
local macro_rules | `(tactic| walk_at "eval Name") => `(tactic| k_dflt (first
  | (refine' nameX_L ?hf ?hv ?_; (case hf => assumption); (case hv => first | (with_unfolding_all rfl) | (with_unfolding_all assumption)))
  | (refine name_B (by assumption) (by assumption) (by k_is) (by first | exact boot_reversed | exact boot_list | exact boot_range | exact boot_tuple | rfl) (by decide) ?_)
  | (refine name_G (by assumption) (by assumption) (by k_is) ?_)))
-- BODY
section
variable {w : World} {A : Around} {s : Shared} {mg mb : Str → Option Value} {B : Heap} {Q : Value → Shared → Prop} {E : Value → Shared → Prop}

/-- ov is a SortedSet, a list or a tuple of the things of these ranks -/
inductive Oth (tx : Bool) (h : Heap) (rs : List Nat) : Value → Prop
  | set {x l : Addr} {vs : Array Value} {ds : List Nat} : SetIs h x l → h.IsList l vs → Ths tx ds vs.toList → ds.Pairwise (· < ·) → (∀ r, ds.contains r = rs.contains r) → ds.length < 900 → Oth tx h rs (.ref x)
  | list {a : Addr} {ws : Array Value} : h.IsList a ws → Ths tx rs ws.toList → rs.length < 900 → Oth tx h rs (.ref a)
  | tuple {a : Addr} {ws : Array Value} : h.IsTuple a ws → Ths tx rs ws.toList → rs.length < 900 → Oth tx h rs (.ref a)
theorem Oth.stays {tx : Bool} {h h' : Heap} {rs : List Nat} {v : Value} (O : Oth tx h rs v) (k : Heap.StaysIn h h') : Oth tx h' rs v := by
  cases O with
  | set S l t s c n => exact .set (S.stays k) (upS k l) t s c n
  | list l t n => exact .list (upS k l) t n
  | tuple l t n => exact .tuple (l.at fun o e => k _ o e) t n

theorem Ths.any' {tx : Bool} {rs : List Nat} {ws : Array Value} (t : Ths tx rs ws.toList) (r : Nat) : ws.any (eTh tx r) = rs.contains r := by
  have := t.any r
  simpa using this
section
variable {h₀ : Heap} {L : Addr} {m : Str → Option Value} {tx : Bool} {rs : List Nat} {r : Nat} {v ov : Value}
theorem in_oth (F : Fr h₀ L s.heap m) (G : Gr w mg mb B) (hB : Heap.StaysIn B h₀) (R : Rm A 2) (O : Oth tx s.heap rs ov) (hv : IsTh tx r v)
    (h : ∀ h' tk, Heap.StaysIn s.heap h' → Q (.bool (rs.contains r)) { s with heap := h', toks := tk }) :
    wpAny (model PySem.Challenge.rw_vk0007_01.row.prog w) A (compareOp .In v ov) Q E s := by
  cases O with
  | set S l t so c n =>
    refine wpAny_bind (contains_set F G hB R S l t hv so (by omega) fun h' tk k => wpAny_pure ?_)
    rw [c]; exact h _ _ k
  | list l t n =>
    refine PySem.SeqAt.in_listAt (eTh tx r) l (by simpa using t.eqAt hv) ?_
    rw [t.any' r]
    exact h _ s.toks fun _ _ e => e
  | tuple l t n =>
    refine PySem.SeqAt.in_tupleAt (eTh tx r) l (by simpa using t.eqAt hv) ?_
    rw [t.any' r]
    exact h _ s.toks fun _ _ e => e
theorem notIn_oth (F : Fr h₀ L s.heap m) (G : Gr w mg mb B) (hB : Heap.StaysIn B h₀) (R : Rm A 2) (O : Oth tx s.heap rs ov) (hv : IsTh tx r v)
    (h : ∀ h' tk, Heap.StaysIn s.heap h' → Q (.bool (!rs.contains r)) { s with heap := h', toks := tk }) :
    wpAny (model PySem.Challenge.rw_vk0007_01.row.prog w) A (compareOp .NotIn v ov) Q E s := by
  cases O with
  | set S l t so c n =>
    refine wpAny_bind (contains_set F G hB R S l t hv so (by omega) fun h' tk k => wpAny_pure ?_)
    rw [c]; exact h _ _ k
  | list l t n =>
    refine PySem.SeqAt.notIn_listAt (eTh tx r) l (by simpa using t.eqAt hv) ?_
    rw [t.any' r]
    exact h _ s.toks fun _ _ e => e
  | tuple l t n =>
    refine PySem.SeqAt.notIn_tupleAt (eTh tx r) l (by simpa using t.eqAt hv) ?_
    rw [t.any' r]
    exact h _ s.toks fun _ _ e => e
end

/-- between h and h' a SortedSet of these ranks was made -/
structure NewSet (tx : Bool) (h h' : Heap) (x dx l : Addr) (ds : List Nat) : Prop where
  keep : Heap.StaysIn h h'
  fx : h.get? x = none
  fd : h.get? dx = none
  fl : h.get? l = none
  ox : h'.get? x = some (instObj 306 dx)
  od : ∃ hsh tk n, h'.get? dx = some (itemsDict hsh tk l n)
  ol : ∃ vs ep, h'.get? l = some (listOf vs ep) ∧ Ths tx ds vs.toList
theorem NewSet.is {tx : Bool} {h h' : Heap} {x dx l : Addr} {ds : List Nat} (N : NewSet tx h h' x dx l ds) : SetIs h' x l := by
  obtain ⟨hsh, tk, n, e⟩ := N.od
  exact ⟨dx, hsh, tk, n, N.ox, e⟩
theorem NewSet.oth {tx : Bool} {h h' : Heap} {x dx l : Addr} {ds rs : List Nat} (N : NewSet tx h h' x dx l ds) (hs : ds.Pairwise (· < ·)) (hc : ∀ r, ds.contains r = rs.contains r) (hl : ds.length < 900) : Oth tx h' rs (.ref x) := by
  obtain ⟨vs, ep, e, t⟩ := N.ol
  exact .set N.is (listAt e) t hs hc hl

theorem ne_cls {h : Heap} {a b : Addr} {o o' : Obj} (e : h.get? a = some o) (e' : h.get? b = some o') (n : o.cls ≠ o'.cls) : a ≠ b := fun q => n (by rw [q, e'] at e; cases e; rfl)
theorem NewSet.news {tx : Bool} {h h' h₀ : Heap} {L x dx l : Addr} {ds : List Nat} {m : Str → Option Value} {news : List (Addr × Obj)} (Y : NewSet tx h h' x dx l ds) (F : Fr h₀ L h m) (N : News h₀ L h news) :
    ∃ hsh tk n vs ep, Ths tx ds vs.toList ∧ News h₀ L h' ((l, listOf vs ep) :: (x, instObj 306 dx) :: (dx, itemsDict hsh tk l n) :: news) ∧ x ≠ l ∧ dx ≠ l ∧ x ≠ dx ∧ (∀ p ∈ news, p.1 ≠ l ∧ p.1 ≠ x ∧ p.1 ≠ dx) := by
  obtain ⟨hsh, tk, n, ed⟩ := Y.od
  obtain ⟨vs, ep, el, t⟩ := Y.ol
  have one : ∀ {a : Addr} {o : Obj}, h.get? a = none → h'.get? a = some o → h'.get? a = some o ∧ a ≠ L ∧ h₀.get? a = none := fun f e => by
    refine ⟨e, fun q => ?_, none_of F.keep f⟩
    obtain ⟨oL, es, ep, hL, _⟩ := F.ns
    rw [q, hL] at f; cases f
  refine ⟨hsh, tk, n, vs, ep, t, fun p hp => ?_, ne_cls Y.ox el (by simp), ne_cls ed el (by simp), ne_cls Y.ox ed (by simp), fun p hp => ?_⟩
  · rcases List.mem_cons.mp hp with rfl | hp
    · exact one Y.fl el
    rcases List.mem_cons.mp hp with rfl | hp
    · exact one Y.fx Y.ox
    rcases List.mem_cons.mp hp with rfl | hp
    · exact one Y.fd ed
    · exact N.keeps Y.keep p hp
  · have z := (N p hp).1
    exact ⟨fun q => (by rw [q, Y.fl] at z; cases z), fun q => (by rw [q, Y.fx] at z; cases z), fun q => (by rw [q, Y.fd] at z; cases z)⟩

theorem make_new {a : Addr} {rs : List Nat} {ws : Array Value} {tx : Bool}
    (G : Gr w mg mb B) (hB : Heap.StaysIn B s.heap) (R : Rm A 5)
    (ha : s.heap.IsList a ws) (hW : Ths tx rs ws.toList) (hlen : rs.length < 900)
    (h : ∀ h' tk x dx l, NewSet tx s.heap h' x dx l (rs.foldl ins []) → Q (.ref x) { s with heap := h', toks := tk }) :
    wpAny (model PySem.Challenge.rw_vk0007_01.row.prog w) A (call (.ref 306) [.ref a]) Q E s :=
  make_spec G hB R ha hW hlen fun h' tk x dx l hsh tk' n vs' ep' k f1 f2 f3 e1 e2 e3 t => h h' tk x dx l ⟨k, none_of_ge (fun _ _ e => e) f2, none_of_ge (fun _ _ e => e) f1, none_of_ge (fun _ _ e => e) f3, e1, ⟨_, _, _, e2⟩, ⟨_, _, e3, t⟩⟩
theorem make0_new {tx : Bool}
    (G : Gr w mg mb B) (hB : Heap.StaysIn B s.heap) (R : Rm A 5)
    (h : ∀ h' tk x dx l, NewSet tx s.heap h' x dx l [] → Q (.ref x) { s with heap := h', toks := tk }) :
    wpAny (model PySem.Challenge.rw_vk0007_01.row.prog w) A (call (.ref 306) []) Q E s :=
  make0_spec G hB R fun h' tk x dx l hsh tk' n k f1 f2 f3 e1 e2 e3 => h h' tk x dx l ⟨k, none_of_ge (fun _ _ e => e) f2, none_of_ge (fun _ _ e => e) f1, none_of_ge (fun _ _ e => e) f3, e1, ⟨_, _, _, e2⟩, ⟨_, _, e3, .nil⟩⟩

theorem diff_spec {x l : Addr} {vs : Array Value} {ds rs : List Nat} {ov : Value} {tx : Bool}
    (G : Gr w mg mb B) (hB : Heap.StaysIn B s.heap) (R : Rm A 6) (S : SetIs s.heap x l) (hl : s.heap.IsList l vs) (hT : Ths tx ds vs.toList) (hs : ds.Pairwise (· < ·)) (hlen : ds.length < 900) (O : Oth tx s.heap rs ov)
    (h : ∀ h' tk x dx l, NewSet tx s.heap h' x dx l (ds.filter fun d => !rs.contains d) → Q (.ref x) { s with heap := h', toks := tk }) :
    wpAny (model PySem.Challenge.rw_vk0007_01.row.prog w) A (call (.ref 289) [.ref x, ov]) Q E s := by
  refine enter0 [("self", .ref x), ("other", ov)] (G.K.keeps hB) (G.T.nolimit.keeps hB) (by k_is) (by k_is) R.room (BindsTo.of_eq rfl) rfl ?_ (by decide)
  intro L h₁ F N
  have G₀ := G.keeps hB
  have KX := G₀.K
  have hsz : ds.length = vs.size := by rw [← Array.length_toList]; exact hT.len
  repeat' walk1
  refine make0_new (tx := tx) G (up F hB) (R.deeper _) ?_
  intro h₂ tk₂ y dy ly Y
  have F₂ := F.keeps Y.keep
  obtain ⟨hsh, tk', n, vs₀, ep₀, T₀, N₂, hxl, hdl, -, -⟩ := Y.news F N
  clear F N
  iterate 2 walk1
  refine wpAny_For ?_
  repeat' walk1
  obtain ⟨ol, hl1, hl2, nl, hl3⟩ := id hl
  rename Fr _ _ _ _ => F₃
  rename News _ _ _ _ => N₃
  refine iter_list R.hh (fun i m news => ∃ vs' ep', m "self" = some (.ref x) ∧ m "other" = some ov ∧ m "diff" = some (.ref y) ∧ news = [(ly, listOf vs' ep'), (y, instObj 306 dy), (dy, itemsDict hsh tk' ly n)] ∧ Ths tx (((ds.take i).filter fun d => !rs.contains d).foldl ins []) vs'.toList)
    (upL F₃ hl) (fun _ h _ _ F _ _ => F.keep _ _ hl1) F₃ N₃ ⟨vs₀, ep₀, rfl, rfl, rfl, rfl, T₀⟩ ?_ ?_
  · rintro i v m₁ news₁ h₄ tk₄ I oI hi ⟨vs', ep', e1, e2, e3, rfl, e5⟩ F₄ N₄ hI
    clear F₃ N₃
    repeat' walk1
    rename Fr _ _ _ _ => F₅
    rename News _ _ _ _ => N₅
    clear F₄ N₄
    obtain ⟨r, hr1, hr2⟩ := hT.get (i := i) (v := v) (by simpa using hi)
    refine notIn_oth F₅ G hB ((R.deeper _).less (by omega)) (O.stays F₅.keep) hr2 ?_
    intro h₆ tk₆ k₆
    have F₆ := F₅.keeps k₆
    have N₆ := N₅.keeps k₆
    clear F₅ N₅
    have hfs := filter_snoc (p := fun d => !rs.contains d) hr1
    have hIl : ly ≠ I := hI _ (.head _)
    cases hc : rs.contains r with
    | false =>
      rw [hc] at hfs
      repeat' walk1
      have hln := @insAll_len ((ds.take i).filter fun d => !rs.contains d) []
      have hln2 := List.length_filter_le (fun d => !rs.contains d) (ds.take i)
      have hln3 : (ds.take i).length ≤ ds.length := by rw [List.length_take]; omega
      refine add_spec G (up F₆ hB) (none_of hB (N₆ _ (.tail _ (.head _))).2.2) ((R.deeper _).less (by omega)) ⟨_, _, _, _, (N₆ _ (.tail _ (.tail _ (.head _)))).1, (N₆ _ (.tail _ (.tail _ (.tail _ (.head _))))).1⟩ (N₆ _ (.tail _ (.head _))).1 e5 hr2 (insAll_sorted .nil) (by simp only [List.length_nil] at hln; omega) ?_
      intro h₇ tk₇ vs₇ ep₇ k₇ e₇ T₇
      have F₇ := fr_off1 F₆ N₆ (.tail _ (.head _)) k₇
      have N₇ := news_put (pre := [(I, oI)]) (post := [(y, instObj 306 dy), (dy, itemsDict hsh tk' ly n)]) N₆ k₇ e₇ (fun p hp => by rw [List.mem_singleton.mp hp]; exact hIl.symm)
        (fun p hp => by
          rcases List.mem_cons.mp hp with rfl | hp
          · exact hxl
          · rw [List.mem_singleton.mp hp]; exact hdl)
      repeat' walk1
      exact TurnEnd.intro F₇ N₇ (fun p hp => by
          rcases List.mem_cons.mp hp with rfl | hp
          · exact hIl
          · exact hI p (.tail _ hp)) ⟨vs₇, ep₇, e1, e2, e3, rfl, by rw [hfs]; exact T₇⟩
    | true =>
      rw [hc] at hfs
      repeat' walk1
      exact TurnEnd.intro F₆ N₆ hI ⟨vs', ep', e1, e2, e3, rfl, by rw [hfs]; exact e5⟩
  · rintro m₁ news₁ h₂ tk₂ ⟨vs', ep', e1, e2, e3, rfl, e5⟩ F₄ N₄
    rw [← hsz, List.take_length, insAll_filter _ hs] at e5
    repeat' walk1
    exact h _ _ y dy ly ⟨F₄.keep, (N₄ _ (.tail _ (.head _))).2.2, (N₄ _ (.tail _ (.tail _ (.head _)))).2.2, (N₄ _ (.head _)).2.2, (N₄ _ (.tail _ (.head _))).1, ⟨_, _, _, (N₄ _ (.tail _ (.tail _ (.head _)))).1⟩, ⟨_, _, (N₄ _ (.head _)).1, e5⟩⟩
end
end Mine

end

open PySem PySem.W PyProof.Rows in
example : True := by
  w_top off
  trivial
open PySem PySem.W PyProof.Rows in
example {M : Model} {A : Around} {E : Value → Shared → Prop} {s : Shared} {Q : Unit → Shared → Prop} (h : Q () s) : wpAny M A (pure ()) Q E s := by
  first
    | (walk1; exact h)
    | exact wpAny_pure h
section
open PySem PySem.W PyProof.Rows PySem.Calls
set_option Elab.async false
set_option maxRecDepth 100000
set_option maxHeartbeats 4000000
set_option linter.unusedVariables false
set_option pp.deepTerms.threshold 5
set_option pp.maxSteps 2000
namespace Mine
-- HEAD
example : PySem.Challenge.rw_vk0007_01 = PySem.Challenge.rw_vk0007_01 ∧ hd.heap_39 = hd.heap_39 := by
  k_fill
  exact ⟨rfl, rfl⟩
local macro_rules | `(tactic| walk_at "getAttr ref") => `(tactic| k_dflt (refine items_at (by assumption) (by assumption) (SetIs.stays (by assumption) (Fr.keep (by assumption))) ?_))
local macro_rules | `(tactic| walk_at "getMethod ref") => `(tactic| k_dflt (refine' meth_at ?f ?g ?s ?k1 ?k2 ?k3 ?k4 ?_; (case f => assumption); (case g => assumption); (case s => exact SetIs.stays (by assumption) (Fr.keep (by assumption))); (case k1 => k_is); (case k2 => k_is); (case k3 => k_is); (case k4 => decide)))
local macro_rules | `(tactic| walk_at "eval Name") => `(tactic| k_dflt (first
  | (refine' nameX_L ?hf ?hv ?_; (case hf => assumption); (case hv => first | (with_unfolding_all rfl) | (with_unfolding_all assumption)))
  | (refine name_B (by assumption) (by assumption) (by k_is) (by first | exact boot_reversed | exact boot_list | exact boot_range | exact boot_tuple | rfl) (by decide) ?_)
  | (refine name_G (by assumption) (by assumption) (by k_is) ?_)))
-- BODY
section
variable {w : World} {A : Around} {s : Shared} {mg mb : Str → Option Value} {B : Heap} {Q : Value → Shared → Prop} {E : Value → Shared → Prop}
theorem isect_spec {x l : Addr} {vs : Array Value} {ds rs : List Nat} {ov : Value} {tx : Bool}
    (G : Gr w mg mb B) (hB : Heap.StaysIn B s.heap) (R : Rm A 6) (S : SetIs s.heap x l) (hl : s.heap.IsList l vs) (hT : Ths tx ds vs.toList) (hs : ds.Pairwise (· < ·)) (hlen : ds.length < 900) (O : Oth tx s.heap rs ov)
    (h : ∀ h' tk x dx l, NewSet tx s.heap h' x dx l (ds.filter fun d => rs.contains d) → Q (.ref x) { s with heap := h', toks := tk }) :
    wpAny (model PySem.Challenge.rw_vk0007_01.row.prog w) A (call (.ref 296) [.ref x, ov]) Q E s := by
  refine enter0 [("self", .ref x), ("other", ov)] (G.K.keeps hB) (G.T.nolimit.keeps hB) (by k_is) (by k_is) R.room (BindsTo.of_eq rfl) rfl ?_ (by decide)
  intro L h₁ F N
  have G₀ := G.keeps hB
  have KX := G₀.K
  have hsz : ds.length = vs.size := by rw [← Array.length_toList]; exact hT.len
  repeat' walk1
  refine make0_new (tx := tx) G (up F hB) (R.deeper _) ?_
  intro h₂ tk₂ y dy ly Y
  have F₂ := F.keeps Y.keep
  obtain ⟨hsh, tk', n, vs₀, ep₀, T₀, N₂, hxl, hdl, -, -⟩ := Y.news F N
  clear F N
  iterate 2 walk1
  refine wpAny_For ?_
  repeat' walk1
  obtain ⟨ol, hl1, hl2, nl, hl3⟩ := id hl
  rename Fr _ _ _ _ => F₃
  rename News _ _ _ _ => N₃
  refine iter_list R.hh (fun i m news => ∃ vs' ep', m "self" = some (.ref x) ∧ m "other" = some ov ∧ m "isect" = some (.ref y) ∧ news = [(ly, listOf vs' ep'), (y, instObj 306 dy), (dy, itemsDict hsh tk' ly n)] ∧ Ths tx (((ds.take i).filter fun d => rs.contains d).foldl ins []) vs'.toList)
    (upL F₃ hl) (fun _ h _ _ F _ _ => F.keep _ _ hl1) F₃ N₃ ⟨vs₀, ep₀, rfl, rfl, rfl, rfl, T₀⟩ ?_ ?_
  · rintro i v m₁ news₁ h₄ tk₄ I oI hi ⟨vs', ep', e1, e2, e3, rfl, e5⟩ F₄ N₄ hI
    clear F₃ N₃
    repeat' walk1
    rename Fr _ _ _ _ => F₅
    rename News _ _ _ _ => N₅
    clear F₄ N₄
    obtain ⟨r, hr1, hr2⟩ := hT.get (i := i) (v := v) (by simpa using hi)
    refine in_oth F₅ G hB ((R.deeper _).less (by omega)) (O.stays F₅.keep) hr2 ?_
    intro h₆ tk₆ k₆
    have F₆ := F₅.keeps k₆
    have N₆ := N₅.keeps k₆
    clear F₅ N₅
    have hfs := filter_snoc (p := fun d => rs.contains d) hr1
    have hIl : ly ≠ I := hI _ (.head _)
    cases hc : rs.contains r with
    | true =>
      rw [hc] at hfs
      repeat' walk1
      have hln := @insAll_len ((ds.take i).filter fun d => rs.contains d) []
      have hln2 := List.length_filter_le (fun d => rs.contains d) (ds.take i)
      have hln3 : (ds.take i).length ≤ ds.length := by rw [List.length_take]; omega
      refine add_spec G (up F₆ hB) (none_of hB (N₆ _ (.tail _ (.head _))).2.2) ((R.deeper _).less (by omega)) ⟨_, _, _, _, (N₆ _ (.tail _ (.tail _ (.head _)))).1, (N₆ _ (.tail _ (.tail _ (.tail _ (.head _))))).1⟩ (N₆ _ (.tail _ (.head _))).1 e5 hr2 (insAll_sorted .nil) (by simp only [List.length_nil] at hln; omega) ?_
      intro h₇ tk₇ vs₇ ep₇ k₇ e₇ T₇
      have F₇ := fr_off1 F₆ N₆ (.tail _ (.head _)) k₇
      have N₇ := news_put (pre := [(I, oI)]) (post := [(y, instObj 306 dy), (dy, itemsDict hsh tk' ly n)]) N₆ k₇ e₇ (fun p hp => by rw [List.mem_singleton.mp hp]; exact hIl.symm)
        (fun p hp => by
          rcases List.mem_cons.mp hp with rfl | hp
          · exact hxl
          · rw [List.mem_singleton.mp hp]; exact hdl)
      repeat' walk1
      exact TurnEnd.intro F₇ N₇ (fun p hp => by
          rcases List.mem_cons.mp hp with rfl | hp
          · exact hIl
          · exact hI p (.tail _ hp)) ⟨vs₇, ep₇, e1, e2, e3, rfl, by rw [hfs]; exact T₇⟩
    | false =>
      rw [hc] at hfs
      repeat' walk1
      exact TurnEnd.intro F₆ N₆ hI ⟨vs', ep', e1, e2, e3, rfl, by rw [hfs]; exact e5⟩
  · rintro m₁ news₁ h₂ tk₂ ⟨vs', ep', e1, e2, e3, rfl, e5⟩ F₄ N₄
    rw [← hsz, List.take_length, insAll_filter _ hs] at e5
    repeat' walk1
    exact h _ _ y dy ly ⟨F₄.keep, (N₄ _ (.tail _ (.head _))).2.2, (N₄ _ (.tail _ (.tail _ (.head _)))).2.2, (N₄ _ (.head _)).2.2, (N₄ _ (.tail _ (.head _))).1, ⟨_, _, _, (N₄ _ (.tail _ (.tail _ (.head _)))).1⟩, ⟨_, _, (N₄ _ (.head _)).1, e5⟩⟩
end
end Mine

end

open PySem PySem.W PyProof.Rows in
example : True := by
  w_top off
  trivial
open PySem PySem.W PyProof.Rows in
example {M : Model} {A : Around} {E : Value → Shared → Prop} {s : Shared} {Q : Unit → Shared → Prop} (h : Q () s) : wpAny M A (pure ()) Q E s := by
  first
    | (walk1; exact h)
    | exact wpAny_pure h
section
open PySem PySem.W PyProof.Rows PySem.Calls
set_option Elab.async false
set_option maxRecDepth 100000
set_option maxHeartbeats 4000000
set_option linter.unusedVariables false
set_option pp.deepTerms.threshold 5
set_option pp.maxSteps 2000
namespace Mine
-- HEAD
example : PySem.Challenge.rw_vk0007_01 = PySem.Challenge.rw_vk0007_01 ∧ hd.heap_39 = hd.heap_39 := by
  k_fill
  exact ⟨rfl, rfl⟩
local macro_rules | `(tactic| walk_at "getAttr ref") => `(tactic| k_dflt (refine items_at (by assumption) (by assumption) (SetIs.stays (by assumption) (Fr.keep (by assumption))) ?_))
local macro_rules | `(tactic| walk_at "getMethod ref") => `(tactic| k_dflt (refine' meth_at ?f ?g ?s ?k1 ?k2 ?k3 ?k4 ?_; (case f => assumption); (case g => assumption); (case s => exact SetIs.stays (by assumption) (Fr.keep (by assumption))); (case k1 => k_is); (case k2 => k_is); (case k3 => k_is); (case k4 => decide)))
local macro_rules | `(tactic| walk_at "eval Name") => `(tactic| k_dflt (first
  | (refine' nameX_L ?hf ?hv ?_; (case hf => assumption); (case hv => first | (with_unfolding_all rfl) | (with_unfolding_all assumption)))
  | (refine name_B (by assumption) (by assumption) (by k_is) (by first | exact boot_reversed | exact boot_list | exact boot_range | exact boot_tuple | rfl) (by decide) ?_)
  | (refine name_G (by assumption) (by assumption) (by k_is) ?_)))
-- BODY
section
variable {w : World} {A : Around} {s : Shared} {mg mb : Str → Option Value} {B : Heap} {Q : Value → Shared → Prop} {E : Value → Shared → Prop}

theorem set_items {h₀ : Heap} {L : Addr} {m : Str → Option Value} {x dx l l' : Addr} {hsh : Int} {tk : Tok} {n : Nat} {news news' : List (Addr × Obj)} {Q : Unit → Shared → Prop} (F : Fr h₀ L s.heap m) (G : Gr w mg mb h₀) (N : News h₀ L s.heap news)
    (hx : s.heap.get? x = some (instObj 306 dx)) (hdx : s.heap.get? dx = some (itemsDict hsh tk l n)) (U : Upd dx (itemsDict hsh tk l n) (itemsDict hsh tk l' n) news news')
    (h : ∀ h', Fr h₀ L h' m → News h₀ L h' news' → Q () { s with heap := h', toks := s.toks + 2 }) :
    wpAny (model PySem.Challenge.rw_vk0007_01.row.prog w) A (setAttr (.ref x) "_items" (.ref l')) Q E s := by
  have k1 : findIn (hd.heap_39 w.params) (.ref 306) "__setattr__" = some (some (.builtin "object.__setattr__")) := by k_is
  have k2 : plainOver (hd.heap_39 w.params) 306 = true := by k_is
  have k3 : takerIn (hd.heap_39 w.params) 306 "_items" = some none := by k_is
  have k4 : hasDictIn (hd.heap_39 w.params) 306 = true := by k_is
  exact set_dict (C := 306) (ox := instObj 306 dx) (es := [⟨hsh, .str "_items" tk, .ref l⟩]) (n := n) (es' := [⟨hsh, .str "_items" tk, .ref l'⟩]) (n' := n) F G.K N ⟨hx, rfl, rfl, hdx⟩ rfl k1 k2 k3 k4 rfl rfl U (by simp) h

theorem copy_spec {x l : Addr} {vs : Array Value} {ds : List Nat} {tx : Bool}
    (G : Gr w mg mb B) (hB : Heap.StaysIn B s.heap) (R : Rm A 6) (S : SetIs s.heap x l) (hl : s.heap.IsList l vs) (hT : Ths tx ds vs.toList) (hlen : ds.length < 900)
    (h : ∀ h' tk x dx l, NewSet tx s.heap h' x dx l ds → Q (.ref x) { s with heap := h', toks := tk }) :
    wpAny (model PySem.Challenge.rw_vk0007_01.row.prog w) A (call (.ref 219) [.ref x]) Q E s := by
  refine enter0 [("self", .ref x)] (G.K.keeps hB) (G.T.nolimit.keeps hB) (by k_is) (by k_is) R.room (BindsTo.of_eq rfl) rfl ?_ (by decide)
  intro L h₁ F N
  have G₀ := G.keeps hB
  have KX := G₀.K
  have hsz : ds.length = vs.size := by rw [← Array.length_toList]; exact hT.len
  repeat' walk1
  refine make0_new (tx := tx) G (up F hB) (R.deeper _) ?_
  intro h₂ tk₂ y dy ly Y
  have F₂ := F.keeps Y.keep
  obtain ⟨hsh, tk', n, vs₀, ep₀, T₀, N₂, hxl, hdl, hxd, -⟩ := Y.news F N
  have n1 := neN hxl
  have n2 := neN hdl
  have n3 := neN hxd
  clear F N
  repeat' walk1
  rename Fr _ _ _ _ => F₃
  rename News _ _ _ _ => N₃
  rename _ < _ ∧ _ < _ ∧ _ < _ => l1
  refine set_items F₃ G₀ N₃ (N₃ _ (.tail _ (.tail _ (.head _)))).1 (N₃ _ (.tail _ (.tail _ (.tail _ (.head _))))).1
    (.tail (Nat.ne_of_gt l1.2.2) (.tail (Ne.symm hdl) (.tail hxd (.head fun _ hp => nomatch hp)))) ?_
  intro h₄ F₄ N₄
  repeat' walk1
  exact h _ _ y dy _ ⟨F₄.keep, (N₄ _ (.tail _ (.tail _ (.head _)))).2.2, (N₄ _ (.tail _ (.tail _ (.tail _ (.head _))))).2.2, (N₄ _ (.head _)).2.2, (N₄ _ (.tail _ (.tail _ (.head _)))).1, ⟨_, _, _, (N₄ _ (.tail _ (.tail _ (.tail _ (.head _))))).1⟩, ⟨_, _, (N₄ _ (.head _)).1, hT⟩⟩
end
end Mine

end

open PySem PySem.W PyProof.Rows in
example : True := by
  w_top off
  trivial
open PySem PySem.W PyProof.Rows in
example {M : Model} {A : Around} {E : Value → Shared → Prop} {s : Shared} {Q : Unit → Shared → Prop} (h : Q () s) : wpAny M A (pure ()) Q E s := by
  first
    | (walk1; exact h)
    | exact wpAny_pure h
section
open PySem PySem.W PyProof.Rows PySem.Calls
set_option Elab.async false
set_option maxRecDepth 100000
set_option maxHeartbeats 4000000
set_option linter.unusedVariables false
set_option pp.deepTerms.threshold 5
set_option pp.maxSteps 2000
namespace Mine
-- HEAD
example : PySem.Challenge.rw_vk0007_01 = PySem.Challenge.rw_vk0007_01 ∧ hd.heap_39 = hd.heap_39 := by
  k_fill
  exact ⟨rfl, rfl⟩
local macro_rules | `(tactic| walk_at "getAttr ref") => `(tactic| k_dflt (refine items_at (by assumption) (by assumption) (SetIs.stays (by assumption) (Fr.keep (by assumption))) ?_))
local macro_rules | `(tactic| walk_at "getMethod ref") => `(tactic| k_dflt (refine' meth_at ?f ?g ?s ?k1 ?k2 ?k3 ?k4 ?_; (case f => assumption); (case g => assumption); (case s => exact SetIs.stays (by assumption) (Fr.keep (by assumption))); (case k1 => k_is); (case k2 => k_is); (case k3 => k_is); (case k4 => decide)))
local macro_rules | `(tactic| walk_at "eval Name") => `(tactic| k_dflt (first
  | (refine' nameX_L ?hf ?hv ?_; (case hf => assumption); (case hv => first | (with_unfolding_all rfl) | (with_unfolding_all assumption)))
  | (refine name_B (by assumption) (by assumption) (by k_is) (by first | exact boot_reversed | exact boot_list | exact boot_range | exact boot_tuple | rfl) (by decide) ?_)
  | (refine name_G (by assumption) (by assumption) (by k_is) ?_)))
-- BODY
theorem bind_star {name qual : Str} {p q : Pos} {body : List Stmt} {scope : Scope} {kV doc pm cdv ct : Value} {an : Option Addr} (x : Value) (ovs : List Value) :
    bindArgs (fnOf name qual { posonlyargs := [], args := [{ arg := "self", annotation := none, pos := p }], vararg := some { arg := "others", annotation := none, pos := q }, kwonlyargs := [], kw_defaults := [], kwarg := none, defaults := [] } body scope .none kV doc pm an cdv ct) ⟨x :: ovs, []⟩ = (newTuple ovs >>= fun t => pure [(PySem.Str.ofString "self", x), (PySem.Str.ofString "others", t)]) := by
  unfold bindArgs
  simp only [Bool.and_false, Option.isNone_some]
  kernel_rfl

abbrev tupOf (vs : List Value) : Obj := { cls := .type "tuple", data := .seq vs.toArray }
theorem enterSC {w : World} {A : Around} {s : Shared} {K : Frag} {Q : Value → Shared → Prop} {E : Value → Shared → Prop}
    {name qual : Str} {p q : Pos} {body : List Stmt} {scope : Scope} {kV doc pm cdv ct oc : Value} {an od : Option Addr} {osl : Array (Option Value)} {f : Addr} {x : Value} {ovs : List Value}
    (X : K.In s.heap) (hlim : s.heap.NoLimit)
    (ho : K.lookup f = some ⟨oc, od, .func (fnOf name qual { posonlyargs := [], args := [{ arg := "self", annotation := none, pos := p }], vararg := some { arg := "others", annotation := none, pos := q }, kwonlyargs := [], kw_defaults := [], kwarg := none, defaults := [] } body scope .none kV doc pm an cdv ct), osl⟩)
    (hcd : codeIn K cdv qual = true) (hroom : A.depth < recursionLimit) (hsz : ovs.length ≤ 1000)
    (hloc : scope.names.lookup (PySem.Str.ofString "self") = some .local ∧ scope.names.lookup (PySem.Str.ofString "others") = some .local)
    (h : ∀ t L' h₁ tk, Fr s.heap L' h₁ (fun y => [((PySem.Str.ofString "self" : Str), x), (PySem.Str.ofString "others", Value.ref t)].reverse.lookup y) → News s.heap L' h₁ [(t, tupOf ovs)] →
      wpAny (model PySem.Challenge.rw_vk0007_01.row.prog w) (A.deeper (envOf qual scope L' f cdv)) (execs body (envOf qual scope L' f cdv))
        (fun fl s' => Q (match fl with | .ret v => v | _ => .none) s') (fun _ _ => False) { s with heap := h₁, toks := tk })
    (hcell : ∀ x ∈ scope.names, x.2 ≠ .cell) (hco : scope.isCoroutine = false := by rfl) (hgen : scope.isGenerator = false := by rfl) (hk : scope.kind = .function := by rfl) :
    codeAny (model PySem.Challenge.rw_vk0007_01.row.prog w) A (.call (.ref f) ⟨x :: ovs, []⟩) (fun r s' => match r with | .ok (.ret v) => Q v s' | .ok _ => False | .error e => E e s') s := by
  refine codeAny_call_function (fd := fnOf name qual _ body scope .none kV doc pm an cdv ct) (body := body) hroom (X _ _ ho) rfl hco hgen rfl (codeRec_of X hcd) ?_
  rw [bind_star]
  refine wpAny_bind (wpAny_newObj_type (wpAny_pure ?_) (by show ovs.toArray.size ≤ sizeLine; rw [List.size_toArray, sizeLine_eq]; omega))
  have kp : Heap.StaysIn s.heap (s.heap.push (tupOf ovs)) := fun b o e => Heap.get?_push_of_some _ e
  refine wpAny_newFunctionEnv hcell (fun y hy => ?_) (fun h₁ hns hsb => ⟨(hlim.keeps kp).fresh _ hsb, codeAny_func ?_⟩) hk
  · rcases List.mem_cons.mp hy with rfl | hy
    · exact hloc.1
    · rw [List.mem_singleton.mp hy]; exact hloc.2
  have hk₁ : Heap.StaysIn (s.heap.push (tupOf ovs)) h₁ := fun b o e => hsb.extBut b o (Nat.ne_of_lt (Heap.lt_size e)) (Heap.get?_push_of_some _ e)
  refine wpAny_mono (h s.heap.objs.size (s.heap.push (tupOf ovs)).objs.size h₁ _ ⟨hns, fun b o e => hk₁ b o (kp b o e), by rw [Heap.size_push]; exact Nat.le_succ _⟩ (fun p hp => ?_)) (fun _ _ q => q) fun _ _ q => q.elim
  rw [List.mem_singleton.mp hp]
  refine ⟨hk₁ _ _ (Heap.get?_push_size _ rfl), ?_, none_of_ge (fun _ _ e => e) (Nat.le_refl _)⟩
  show s.heap.objs.size ≠ (s.heap.push (tupOf ovs)).objs.size
  rw [Heap.size_push]; exact Nat.ne_of_lt (Nat.lt_succ_self _)
end Mine

end

open PySem PySem.W PyProof.Rows in
example : True := by
  w_top off
  trivial
open PySem PySem.W PyProof.Rows in
example {M : Model} {A : Around} {E : Value → Shared → Prop} {s : Shared} {Q : Unit → Shared → Prop} (h : Q () s) : wpAny M A (pure ()) Q E s := by
  first
    | (walk1; exact h)
    | exact wpAny_pure h
section
open PySem PySem.W PyProof.Rows PySem.Calls
set_option Elab.async false
set_option maxRecDepth 100000
set_option maxHeartbeats 4000000
set_option linter.unusedVariables false
set_option pp.deepTerms.threshold 5
set_option pp.maxSteps 2000
namespace Mine
-- HEAD
example : PySem.Challenge.rw_vk0007_01 = PySem.Challenge.rw_vk0007_01 ∧ hd.heap_39 = hd.heap_39 := by
  k_fill
  exact ⟨rfl, rfl⟩
local macro_rules | `(tactic| walk_at "getAttr ref") => `(tactic| k_dflt (refine items_at (by assumption) (by assumption) (SetIs.stays (by assumption) (Fr.keep (by assumption))) ?_))
local macro_rules | `(tactic| walk_at "getMethod ref") => `(tactic| k_dflt (refine' meth_at ?f ?g ?s ?k1 ?k2 ?k3 ?k4 ?_; (case f => assumption); (case g => assumption); (case s => exact SetIs.stays (by assumption) (Fr.keep (by assumption))); (case k1 => k_is); (case k2 => k_is); (case k3 => k_is); (case k4 => decide)))
local macro_rules | `(tactic| walk_at "eval Name") => `(tactic| k_dflt (first
  | (refine' nameX_L ?hf ?hv ?_; (case hf => assumption); (case hv => first | (with_unfolding_all rfl) | (with_unfolding_all assumption)))
  | (refine name_B (by assumption) (by assumption) (by k_is) (by first | exact boot_reversed | exact boot_list | exact boot_range | exact boot_tuple | rfl) (by decide) ?_)
  | (refine name_G (by assumption) (by assumption) (by k_is) ?_)))
-- BODY
section
variable {w : World} {A : Around} {s : Shared} {mg mb : Str → Option Value} {B : Heap} {Q : Value → Shared → Prop} {E : Value → Shared → Prop}

/-- the values are sets, lists or tuples of the things of these rows -/
inductive Oths (tx : Bool) (h : Heap) : List (List Nat) → List Value → Prop
  | nil : Oths tx h [] []
  | cons {rs rows v vs} : Oth tx h rs v → Oths tx h rows vs → Oths tx h (rs :: rows) (v :: vs)
theorem Oths.stays {tx : Bool} {h h' : Heap} {rows : List (List Nat)} {vs : List Value} (O : Oths tx h rows vs) (k : Heap.StaysIn h h') : Oths tx h' rows vs := by
  induction O with
  | nil => exact .nil
  | cons a _ ih => exact .cons (a.stays k) ih
theorem Oths.get {tx : Bool} {h : Heap} {rows : List (List Nat)} {vs : List Value} (O : Oths tx h rows vs) : ∀ {i : Nat} {v : Value}, vs[i]? = some v → ∃ rs, rows[i]? = some rs ∧ Oth tx h rs v := by
  induction O with
  | nil => intro i v e; simp at e
  | cons a _ ih =>
    intro i v e
    cases i with
    | zero => simp at e; subst e; exact ⟨_, by simp, a⟩
    | succ i => simp at e; simpa using ih e
theorem Oths.len {tx : Bool} {h : Heap} {rows : List (List Nat)} {vs : List Value} (O : Oths tx h rows vs) : rows.length = vs.length := by
  induction O with
  | nil => rfl
  | cons a _ ih => simp [ih]

/-- a turn's end where the loop may be left early -/
def TurnEndB (h₀ : Heap) (L : Addr) (I : Addr) (oI : Obj) (J D : (Str → Option Value) → List (Addr × Obj) → Prop) (s : Shared) (f : Flow) (s₃ : Shared) : Prop := match f with
  | .ret _ => False
  | .brk => ∃ h' tk' m' news', s₃ = { s with heap := h', toks := tk' } ∧ Fr h₀ L h' m' ∧ News h₀ L h' news' ∧ D m' news'
  | _ => ∃ h' tk' m' news', s₃ = { s with heap := h', toks := tk' } ∧ Fr h₀ L h' m' ∧ News h₀ L h' ((I, oI) :: news') ∧ (∀ p ∈ news', p.1 ≠ I) ∧ J m' news'
theorem TurnEndB.brk {h₀ h' : Heap} {L I : Addr} {oI : Obj} {J D : (Str → Option Value) → List (Addr × Obj) → Prop} {s : Shared} {m' : Str → Option Value} {news' : List (Addr × Obj)} {tk' : Nat}
    (F : Fr h₀ L h' m') (N : News h₀ L h' news') (hJ : D m' news') : TurnEndB h₀ L I oI J D s .brk { s with heap := h', toks := tk' } := ⟨h', tk', m', news', rfl, F, N, hJ⟩
theorem TurnEndB.next {h₀ h' : Heap} {L I : Addr} {oI : Obj} {J D : (Str → Option Value) → List (Addr × Obj) → Prop} {s : Shared} {m' : Str → Option Value} {news' : List (Addr × Obj)} {tk' : Nat}
    (F : Fr h₀ L h' m') (N : News h₀ L h' ((I, oI) :: news')) (hI : ∀ p ∈ news', p.1 ≠ I) (hJ : J m' news') : TurnEndB h₀ L I oI J D s .next { s with heap := h', toks := tk' } := ⟨h', tk', m', news', rfl, F, N, hI, hJ⟩
theorem iter_tupleB {prog : Program} {h₀ : Heap} {env : Env} {target : PySem.Expr} {body : List Stmt} {ax : Addr} {oax : Obj} {items : Array Value} {R : Flow → Shared → Prop} {m : Str → Option Value} {news : List (Addr × Obj)}
    (hh : A.handled = none) (J : Nat → (Str → Option Value) → List (Addr × Obj) → Prop) (D : (Str → Option Value) → List (Addr × Obj) → Prop) (hl : s.heap.IsTuple ax items) (hX : ∀ i h m news, Fr h₀ env.locals h m → News h₀ env.locals h news → J i m news → h.get? ax = some oax)
    (F : Fr h₀ env.locals s.heap m) (N : News h₀ env.locals s.heap news) (hJ : J 0 m news) (hJD : ∀ m news, J items.size m news → D m news)
    (turn : ∀ i v m₁ news₁ h₁ tk₁ I oI, items[i]? = some v → J i m₁ news₁ → Fr h₀ env.locals h₁ m₁ → News h₀ env.locals h₁ ((I, oI) :: news₁) → (∀ p ∈ news₁, p.1 ≠ I) →
      wpAny (model prog w) A (assign target env v) (fun _ s₂ => wpAny (model prog w) A (execs body env) (TurnEndB h₀ env.locals I oI (J (i + 1)) D s) (fun _ _ => False) s₂) (fun _ _ => False) { s with heap := h₁, toks := tk₁ })
    (done : ∀ m₁ news₁ h₁ tk₁, D m₁ news₁ → Fr h₀ env.locals h₁ m₁ → News h₀ env.locals h₁ news₁ → R .next { s with heap := h₁, toks := tk₁ }) :
    wpAny (model prog w) A (pyIter (.ref ax)) (fun it s₂ => codeAny (model prog w) A (.forLoop target it body [] env) (fun r s' => match r with | .ok f => R f s' | .error e => cameBackBy (model prog w) A env E e s') s₂) E s :=
  iter_tuple hh J hl hX F N hJ (fun i v m₁ news₁ h₁ tk₁ I oI a b c d e => wpAny_mono (turn i v m₁ news₁ h₁ tk₁ I oI a b c d e) (fun _ _ q => wpAny_mono q (fun f s₃ z => by
      cases f with
      | ret v => exact z.elim
      | brk => obtain ⟨h', tk', m', news', rfl, F', N', hD⟩ := z; exact done m' news' h' tk' hD F' N'
      | next => exact z
      | cont => exact z) fun _ _ q => q) fun _ _ q => q)
    fun m₁ news₁ h₁ tk₁ j => done m₁ news₁ h₁ tk₁ (hJD _ _ j)

local macro_rules | `(tactic| walk_at "truthy ref") => `(tactic| fail "own")

theorem difference_code {x l : Addr} {vs : Array Value} {ds : List Nat} {rows : List (List Nat)} {ovs : List Value} {tx : Bool}
    (G : Gr w mg mb B) (hB : Heap.StaysIn B s.heap) (R : Rm A 8) (S : SetIs s.heap x l) (hl : s.heap.IsList l vs) (hT : Ths tx ds vs.toList) (hs : ds.Pairwise (· < ·)) (hlen : ds.length < 900) (O : Oths tx s.heap rows ovs) (hov : ovs.length ≤ 1000)
    (h : ∀ h' tk x dx l, NewSet tx s.heap h' x dx l (ds.filter fun d => rows.all fun r => !r.contains d) → Q (.ref x) { s with heap := h', toks := tk }) :
    codeAny (model PySem.Challenge.rw_vk0007_01.row.prog w) A (.call (.ref 275) ⟨.ref x :: ovs, []⟩) (fun r s' => match r with | .ok (.ret v) => Q v s' | .ok _ => False | .error e => E e s') s := by
  have G₀ := G.keeps hB
  refine enterSC G₀.K G₀.T.nolimit (by k_is) (by k_is) R.room hov ⟨rfl, rfl⟩ ?_ (by decide)
  intro t L h₁ tk₁ F N
  have KX := G₀.K
  repeat' walk1
  refine copy_spec G (up F hB) ((R.deeper _).less (by omega)) (S.stays F.keep) (upL F hl) hT hlen ?_
  intro h₂ tk₂ y dy ly Y
  have F₂ := F.keeps Y.keep
  obtain ⟨hsh, tk', n, vs₀, ep₀, T₀, N₂, hxl, hdl, hxd, -⟩ := Y.news F N
  clear F N
  iterate 2 walk1
  refine wpAny_For ?_
  walk1
  rename Fr _ _ _ _ => F₃
  rename News _ _ _ _ => N₃
  refine iter_tupleB (oax := tupOf ovs) (items := ovs.toArray) R.hh (fun i m news => ∃ y dy ly hsh tk' n vs' ep', m "diff" = some (.ref y) ∧ news = [(ly, listOf vs' ep'), (y, instObj 306 dy), (dy, itemsDict hsh tk' ly n), (t, tupOf ovs)] ∧ Ths tx (ds.filter fun d => (rows.take i).all fun r => !r.contains d) vs'.toList)
    (fun m news => ∃ y dy ly hsh tk' n vs' ep', m "diff" = some (.ref y) ∧ news = [(ly, listOf vs' ep'), (y, instObj 306 dy), (dy, itemsDict hsh tk' ly n), (t, tupOf ovs)] ∧ Ths tx (ds.filter fun d => rows.all fun r => !r.contains d) vs'.toList)
    ⟨_, (N₃ _ (.tail _ (.tail _ (.tail _ (.head _))))).1, rfl, _, rfl⟩ ?_ F₃ N₃ ⟨y, dy, ly, hsh, tk', n, vs₀, ep₀, rfl, rfl, by rw [@filter_rows_zero rows ds (fun r d => !r.contains d)]; exact T₀⟩ ?_ ?_ ?_
  · rintro i h m news F N ⟨y, dy, ly, hsh, tk', n, vs', ep', e1, rfl, e2⟩
    exact (N _ (.tail _ (.tail _ (.tail _ (.head _))))).1
  · rintro m news ⟨y, dy, ly, hsh, tk', n, vs', ep', e1, rfl, e2⟩
    refine ⟨y, dy, ly, hsh, tk', n, vs', ep', e1, rfl, ?_⟩
    rwa [List.size_toArray, ← O.len, List.take_length] at e2
  · rintro i v m₁ news₁ h₄ tk₄ I oI hi ⟨y, dy, ly, hsh, tk', n, vs', ep', e1, rfl, e2⟩ F₄ N₄ hI
    clear F₃ N₃
    repeat' walk1
    rename Fr _ _ _ _ => F₅
    rename News _ _ _ _ => N₅
    clear F₄ N₄
    obtain ⟨rs, hr1, hr2⟩ := O.get (i := i) (v := v) (by simpa using hi)
    have hln := List.length_filter_le (fun d => (rows.take i).all fun r => !r.contains d) ds
    refine diff_spec G (up F₅ hB) ((R.deeper _).less (by omega)) ⟨_, _, _, _, (N₅ _ (.tail _ (.tail _ (.head _)))).1, (N₅ _ (.tail _ (.tail _ (.tail _ (.head _))))).1⟩ (listAt (N₅ _ (.tail _ (.head _))).1) e2 (hs.filter _) (by omega) (hr2.stays F₅.keep) ?_
    intro h₆ tk₆ y' dy' ly' Y'
    have F₆ := F₅.keeps Y'.keep
    obtain ⟨hsh', tk₆', n', vs₆, ep₆, T₆, N₆, -, -, -, hne⟩ := Y'.news F₅ N₅
    rw [← filter_rows (q := fun r d => !r.contains d) hr1] at T₆
    change Ths tx (ds.filter fun d => (rows.take (i + 1)).all fun r => !r.contains d) vs₆.toList at T₆
    have N₇ : News s.heap L h₆ [(I, oI), (ly', listOf vs₆ ep₆), (y', instObj 306 dy'), (dy', itemsDict hsh' tk₆' ly' n'), (t, tupOf ovs)] := fun p hp => N₆ p (by revert p; k_allIn)
    have hIt := hI _ (.tail _ (.tail _ (.tail _ (.head _))))
    have hIn := hne _ (.head _)
    clear N₆ F₅ N₅
    repeat' walk1
    rename Fr _ _ _ _ => F₈
    rename News _ _ _ _ => N₈
    have hT6 := T₆.len.trans (Array.length_toList (xs := vs₆))
    have hln6 := List.length_filter_le (fun d => (rows.take (i + 1)).all fun r => !r.contains d) ds
    refine truthy_set F₈ G hB ((R.deeper _).less (by omega)) ⟨_, _, _, _, (N₈ _ (.tail _ (.tail _ (.head _)))).1, (N₈ _ (.tail _ (.tail _ (.tail _ (.head _))))).1⟩ (listAt (N₈ _ (.tail _ (.head _))).1) (by omega) ?_
    intro h₉ tk₉ k₉
    have F₉ := F₈.keeps k₉
    have N₉ := N₈.keeps k₉
    clear F₈ N₈
    cases hz : (vs₆.size != 0) with
    | false =>
      have hz0 : vs₆.size = 0 := by simpa using hz
      have hnil := filter_rows_nil (q := fun r d => !r.contains d) (List.length_eq_zero_iff.mp (hT6.trans hz0))
      have T₉ : Ths tx (ds.filter fun d => rows.all fun r => !r.contains d) vs₆.toList := by
        have e1 : (ds.filter fun d => (rows.take (i + 1)).all fun r => !r.contains d) = [] := List.length_eq_zero_iff.mp (hT6.trans hz0)
        change (ds.filter fun d => rows.all fun r => !r.contains d) = [] at hnil
        rw [e1] at T₆
        rw [hnil]; exact T₆
      repeat' walk1
      exact TurnEndB.brk F₉ (fun p hp => N₉ p (.tail _ hp)) ⟨y', dy', ly', hsh', tk₆', n', vs₆, ep₆, rfl, rfl, T₉⟩
    | true =>
      repeat' walk1
      refine TurnEndB.next F₉ N₉ (fun p hp => ?_) ⟨y', dy', ly', hsh', tk₆', n', vs₆, ep₆, rfl, rfl, T₆⟩
      rcases List.mem_cons.mp hp with rfl | hp
      · exact hIn.1.symm
      rcases List.mem_cons.mp hp with rfl | hp
      · exact hIn.2.1.symm
      rcases List.mem_cons.mp hp with rfl | hp
      · exact hIn.2.2.symm
      · rw [List.mem_singleton.mp hp]; exact hIt
  · rintro m₁ news₁ h₂ tk₂ ⟨y, dy, ly, hsh, tk', n, vs', ep', e1, rfl, e2⟩ F₄ N₄
    repeat' walk1
    exact h _ _ y dy ly ⟨F₄.keep, (N₄ _ (.tail _ (.head _))).2.2, (N₄ _ (.tail _ (.tail _ (.head _)))).2.2, (N₄ _ (.head _)).2.2, (N₄ _ (.tail _ (.head _))).1, ⟨_, _, _, (N₄ _ (.tail _ (.tail _ (.head _)))).1⟩, ⟨_, _, (N₄ _ (.head _)).1, e2⟩⟩
theorem difference_spec {x l : Addr} {vs : Array Value} {ds : List Nat} {rows : List (List Nat)} {ovs : List Value} {tx : Bool}
    (G : Gr w mg mb B) (hB : Heap.StaysIn B s.heap) (R : Rm A 8) (S : SetIs s.heap x l) (hl : s.heap.IsList l vs) (hT : Ths tx ds vs.toList) (hs : ds.Pairwise (· < ·)) (hlen : ds.length < 900) (O : Oths tx s.heap rows ovs) (hov : ovs.length ≤ 1000)
    (h : ∀ h' tk x dx l, NewSet tx s.heap h' x dx l (ds.filter fun d => rows.all fun r => !r.contains d) → Q (.ref x) { s with heap := h', toks := tk }) :
    wpAny (model PySem.Challenge.rw_vk0007_01.row.prog w) A (call (.ref 275) (.ref x :: ovs)) Q E s :=
  wpAny_call (difference_code G hB R S hl hT hs hlen O hov h)
end
end Mine

end

open PySem PySem.W PyProof.Rows in
example : True := by
  w_top off
  trivial
open PySem PySem.W PyProof.Rows in
example {M : Model} {A : Around} {E : Value → Shared → Prop} {s : Shared} {Q : Unit → Shared → Prop} (h : Q () s) : wpAny M A (pure ()) Q E s := by
  first
    | (walk1; exact h)
    | exact wpAny_pure h
section
open PySem PySem.W PyProof.Rows PySem.Calls
set_option Elab.async false
set_option maxRecDepth 100000
set_option maxHeartbeats 4000000
set_option linter.unusedVariables false
set_option pp.deepTerms.threshold 5
set_option pp.maxSteps 2000
namespace Mine
-- HEAD
example : PySem.Challenge.rw_vk0007_01 = PySem.Challenge.rw_vk0007_01 ∧ hd.heap_39 = hd.heap_39 := by
  k_fill
  exact ⟨rfl, rfl⟩
local macro_rules | `(tactic| walk_at "getAttr ref") => `(tactic| k_dflt (refine items_at (by assumption) (by assumption) (SetIs.stays (by assumption) (Fr.keep (by assumption))) ?_))
local macro_rules | `(tactic| walk_at "getMethod ref") => `(tactic| k_dflt (refine' meth_at ?f ?g ?s ?k1 ?k2 ?k3 ?k4 ?_; (case f => assumption); (case g => assumption); (case s => exact SetIs.stays (by assumption) (Fr.keep (by assumption))); (case k1 => k_is); (case k2 => k_is); (case k3 => k_is); (case k4 => decide)))
local macro_rules | `(tactic| walk_at "eval Name") => `(tactic| k_dflt (first
  | (refine' nameX_L ?hf ?hv ?_; (case hf => assumption); (case hv => first | (with_unfolding_all rfl) | (with_unfolding_all assumption)))
  | (refine name_B (by assumption) (by assumption) (by k_is) (by first | exact boot_reversed | exact boot_list | exact boot_range | exact boot_tuple | rfl) (by decide) ?_)
  | (refine name_G (by assumption) (by assumption) (by k_is) ?_)))
-- BODY
section
variable {w : World} {A : Around} {s : Shared} {mg mb : Str → Option Value} {B : Heap} {Q : Value → Shared → Prop} {E : Value → Shared → Prop}
local macro_rules | `(tactic| walk_at "truthy ref") => `(tactic| fail "own")

theorem intersection_code {x l : Addr} {vs : Array Value} {ds : List Nat} {rows : List (List Nat)} {ovs : List Value} {tx : Bool}
    (G : Gr w mg mb B) (hB : Heap.StaysIn B s.heap) (R : Rm A 8) (S : SetIs s.heap x l) (hl : s.heap.IsList l vs) (hT : Ths tx ds vs.toList) (hs : ds.Pairwise (· < ·)) (hlen : ds.length < 900) (O : Oths tx s.heap rows ovs) (hov : ovs.length ≤ 1000)
    (h : ∀ h' tk x dx l, NewSet tx s.heap h' x dx l (ds.filter fun d => rows.all fun r => r.contains d) → Q (.ref x) { s with heap := h', toks := tk }) :
    codeAny (model PySem.Challenge.rw_vk0007_01.row.prog w) A (.call (.ref 268) ⟨.ref x :: ovs, []⟩) (fun r s' => match r with | .ok (.ret v) => Q v s' | .ok _ => False | .error e => E e s') s := by
  have G₀ := G.keeps hB
  refine enterSC G₀.K G₀.T.nolimit (by k_is) (by k_is) R.room hov ⟨rfl, rfl⟩ ?_ (by decide)
  intro t L h₁ tk₁ F N
  have KX := G₀.K
  repeat' walk1
  refine copy_spec G (up F hB) ((R.deeper _).less (by omega)) (S.stays F.keep) (upL F hl) hT hlen ?_
  intro h₂ tk₂ y dy ly Y
  have F₂ := F.keeps Y.keep
  obtain ⟨hsh, tk', n, vs₀, ep₀, T₀, N₂, hxl, hdl, hxd, -⟩ := Y.news F N
  clear F N
  iterate 2 walk1
  refine wpAny_For ?_
  walk1
  rename Fr _ _ _ _ => F₃
  rename News _ _ _ _ => N₃
  refine iter_tupleB (oax := tupOf ovs) (items := ovs.toArray) R.hh (fun i m news => ∃ y dy ly hsh tk' n vs' ep', m "isect" = some (.ref y) ∧ news = [(ly, listOf vs' ep'), (y, instObj 306 dy), (dy, itemsDict hsh tk' ly n), (t, tupOf ovs)] ∧ Ths tx (ds.filter fun d => (rows.take i).all fun r => r.contains d) vs'.toList)
    (fun m news => ∃ y dy ly hsh tk' n vs' ep', m "isect" = some (.ref y) ∧ news = [(ly, listOf vs' ep'), (y, instObj 306 dy), (dy, itemsDict hsh tk' ly n), (t, tupOf ovs)] ∧ Ths tx (ds.filter fun d => rows.all fun r => r.contains d) vs'.toList)
    ⟨_, (N₃ _ (.tail _ (.tail _ (.tail _ (.head _))))).1, rfl, _, rfl⟩ ?_ F₃ N₃ ⟨y, dy, ly, hsh, tk', n, vs₀, ep₀, rfl, rfl, by rw [@filter_rows_zero rows ds (fun r d => r.contains d)]; exact T₀⟩ ?_ ?_ ?_
  · rintro i h m news F N ⟨y, dy, ly, hsh, tk', n, vs', ep', e1, rfl, e2⟩
    exact (N _ (.tail _ (.tail _ (.tail _ (.head _))))).1
  · rintro m news ⟨y, dy, ly, hsh, tk', n, vs', ep', e1, rfl, e2⟩
    refine ⟨y, dy, ly, hsh, tk', n, vs', ep', e1, rfl, ?_⟩
    rwa [List.size_toArray, ← O.len, List.take_length] at e2
  · rintro i v m₁ news₁ h₄ tk₄ I oI hi ⟨y, dy, ly, hsh, tk', n, vs', ep', e1, rfl, e2⟩ F₄ N₄ hI
    clear F₃ N₃
    repeat' walk1
    rename Fr _ _ _ _ => F₅
    rename News _ _ _ _ => N₅
    clear F₄ N₄
    obtain ⟨rs, hr1, hr2⟩ := O.get (i := i) (v := v) (by simpa using hi)
    have hln := List.length_filter_le (fun d => (rows.take i).all fun r => r.contains d) ds
    refine isect_spec G (up F₅ hB) ((R.deeper _).less (by omega)) ⟨_, _, _, _, (N₅ _ (.tail _ (.tail _ (.head _)))).1, (N₅ _ (.tail _ (.tail _ (.tail _ (.head _))))).1⟩ (listAt (N₅ _ (.tail _ (.head _))).1) e2 (hs.filter _) (by omega) (hr2.stays F₅.keep) ?_
    intro h₆ tk₆ y' dy' ly' Y'
    have F₆ := F₅.keeps Y'.keep
    obtain ⟨hsh', tk₆', n', vs₆, ep₆, T₆, N₆, -, -, -, hne⟩ := Y'.news F₅ N₅
    rw [← filter_rows (q := fun r d => r.contains d) hr1] at T₆
    change Ths tx (ds.filter fun d => (rows.take (i + 1)).all fun r => r.contains d) vs₆.toList at T₆
    have N₇ : News s.heap L h₆ [(I, oI), (ly', listOf vs₆ ep₆), (y', instObj 306 dy'), (dy', itemsDict hsh' tk₆' ly' n'), (t, tupOf ovs)] := fun p hp => N₆ p (by revert p; k_allIn)
    have hIt := hI _ (.tail _ (.tail _ (.tail _ (.head _))))
    have hIn := hne _ (.head _)
    clear N₆ F₅ N₅
    repeat' walk1
    rename Fr _ _ _ _ => F₈
    rename News _ _ _ _ => N₈
    have hT6 := T₆.len.trans (Array.length_toList (xs := vs₆))
    have hln6 := List.length_filter_le (fun d => (rows.take (i + 1)).all fun r => r.contains d) ds
    refine truthy_set F₈ G hB ((R.deeper _).less (by omega)) ⟨_, _, _, _, (N₈ _ (.tail _ (.tail _ (.head _)))).1, (N₈ _ (.tail _ (.tail _ (.tail _ (.head _))))).1⟩ (listAt (N₈ _ (.tail _ (.head _))).1) (by omega) ?_
    intro h₉ tk₉ k₉
    have F₉ := F₈.keeps k₉
    have N₉ := N₈.keeps k₉
    clear F₈ N₈
    cases hz : (vs₆.size != 0) with
    | false =>
      have hz0 : vs₆.size = 0 := by simpa using hz
      have hnil := filter_rows_nil (q := fun r d => r.contains d) (List.length_eq_zero_iff.mp (hT6.trans hz0))
      have T₉ : Ths tx (ds.filter fun d => rows.all fun r => r.contains d) vs₆.toList := by
        have e1 : (ds.filter fun d => (rows.take (i + 1)).all fun r => r.contains d) = [] := List.length_eq_zero_iff.mp (hT6.trans hz0)
        change (ds.filter fun d => rows.all fun r => r.contains d) = [] at hnil
        rw [e1] at T₆
        rw [hnil]; exact T₆
      repeat' walk1
      exact TurnEndB.brk F₉ (fun p hp => N₉ p (.tail _ hp)) ⟨y', dy', ly', hsh', tk₆', n', vs₆, ep₆, rfl, rfl, T₉⟩
    | true =>
      repeat' walk1
      refine TurnEndB.next F₉ N₉ (fun p hp => ?_) ⟨y', dy', ly', hsh', tk₆', n', vs₆, ep₆, rfl, rfl, T₆⟩
      rcases List.mem_cons.mp hp with rfl | hp
      · exact hIn.1.symm
      rcases List.mem_cons.mp hp with rfl | hp
      · exact hIn.2.1.symm
      rcases List.mem_cons.mp hp with rfl | hp
      · exact hIn.2.2.symm
      · rw [List.mem_singleton.mp hp]; exact hIt
  · rintro m₁ news₁ h₂ tk₂ ⟨y, dy, ly, hsh, tk', n, vs', ep', e1, rfl, e2⟩ F₄ N₄
    repeat' walk1
    exact h _ _ y dy ly ⟨F₄.keep, (N₄ _ (.tail _ (.head _))).2.2, (N₄ _ (.tail _ (.tail _ (.head _)))).2.2, (N₄ _ (.head _)).2.2, (N₄ _ (.tail _ (.head _))).1, ⟨_, _, _, (N₄ _ (.tail _ (.tail _ (.head _)))).1⟩, ⟨_, _, (N₄ _ (.head _)).1, e2⟩⟩
theorem intersection_spec {x l : Addr} {vs : Array Value} {ds : List Nat} {rows : List (List Nat)} {ovs : List Value} {tx : Bool}
    (G : Gr w mg mb B) (hB : Heap.StaysIn B s.heap) (R : Rm A 8) (S : SetIs s.heap x l) (hl : s.heap.IsList l vs) (hT : Ths tx ds vs.toList) (hs : ds.Pairwise (· < ·)) (hlen : ds.length < 900) (O : Oths tx s.heap rows ovs) (hov : ovs.length ≤ 1000)
    (h : ∀ h' tk x dx l, NewSet tx s.heap h' x dx l (ds.filter fun d => rows.all fun r => r.contains d) → Q (.ref x) { s with heap := h', toks := tk }) :
    wpAny (model PySem.Challenge.rw_vk0007_01.row.prog w) A (call (.ref 268) (.ref x :: ovs)) Q E s :=
  wpAny_call (intersection_code G hB R S hl hT hs hlen O hov h)
end
end Mine

end

open PySem PySem.W PyProof.Rows in
example : True := by
  w_top off
  trivial
open PySem PySem.W PyProof.Rows in
example {M : Model} {A : Around} {E : Value → Shared → Prop} {s : Shared} {Q : Unit → Shared → Prop} (h : Q () s) : wpAny M A (pure ()) Q E s := by
  first
    | (walk1; exact h)
    | exact wpAny_pure h
section
open PySem PySem.W PyProof.Rows PySem.Calls
set_option Elab.async false
set_option maxRecDepth 100000
set_option maxHeartbeats 4000000
set_option linter.unusedVariables false
set_option pp.deepTerms.threshold 5
set_option pp.maxSteps 2000
namespace Mine
-- HEAD
example : PySem.Challenge.rw_vk0007_01 = PySem.Challenge.rw_vk0007_01 ∧ hd.heap_39 = hd.heap_39 := by
  k_fill
  exact ⟨rfl, rfl⟩
local macro_rules | `(tactic| walk_at "getAttr ref") => `(tactic| k_dflt (refine items_at (by assumption) (by assumption) (SetIs.stays (by assumption) (Fr.keep (by assumption))) ?_))
local macro_rules | `(tactic| walk_at "getMethod ref") => `(tactic| k_dflt (refine' meth_at ?f ?g ?s ?k1 ?k2 ?k3 ?k4 ?_; (case f => assumption); (case g => assumption); (case s => exact SetIs.stays (by assumption) (Fr.keep (by assumption))); (case k1 => k_is); (case k2 => k_is); (case k3 => k_is); (case k4 => decide)))
local macro_rules | `(tactic| walk_at "eval Name") => `(tactic| k_dflt (first
  | (refine' nameX_L ?hf ?hv ?_; (case hf => assumption); (case hv => first | (with_unfolding_all rfl) | (with_unfolding_all assumption)))
  | (refine name_B (by assumption) (by assumption) (by k_is) (by first | exact boot_reversed | exact boot_list | exact boot_range | exact boot_tuple | rfl) (by decide) ?_)
  | (refine name_G (by assumption) (by assumption) (by k_is) ?_)))
-- BODY
section
variable {w : World} {A : Around} {s : Shared} {mg mb : Str → Option Value} {B : Heap} {Q : Value → Shared → Prop} {E : Value → Shared → Prop}

theorem pyIter_set {h₀ : Heap} {L : Addr} {m : Str → Option Value} {x l : Addr} {vs : Array Value} (F : Fr h₀ L s.heap m) (G : Gr w mg mb B) (hB : Heap.StaysIn B h₀) (R : Rm A 1) (S : SetIs s.heap x l) (hl : s.heap.IsList l vs)
    (h : ∀ h' tk I, Heap.StaysIn s.heap h' → h'.get? I = some { cls := .type "list_iterator", data := .fields #[.ref l, .int 0 0] } → s.heap.get? I = none → Q (.ref I) { s with heap := h', toks := tk }) :
    wpAny (model PySem.Challenge.rw_vk0007_01.row.prog w) A (pyIter (.ref x)) Q E s := by
  have hs : findIn (hd.heap_39 w.params) (.ref 306) "__iter__" = some (some (.ref 58)) := by k_is
  have hf : isFn (hd.heap_39 w.params) (.ref 58) = true := by k_is
  obtain ⟨dx, hsh, tk, n, h1, h2⟩ := id S
  refine owit_iter (C := 306) (od := some (itemsDict hsh tk l n)) F (G.keeps hB).K ⟨h1, rfl, rfl, h2⟩ hs hf (iter_spec G (up F hB) R S hl fun h' tk I k e f => ?_)
  unfold OwitIt
  have hT : Shared.TypeIs { s with heap := h', toks := tk } (.ref I) "list_iterator" := ⟨_, e, rfl⟩
  refine wpAny_specialOf (name := Str.ofString "__next__") hT slot_listiter_next.lookup ?_
  exact h h' tk I k e f

theorem iter_oth {h₀ : Heap} {env : Env} {target : PySem.Expr} {body : List Stmt} {Rr : Flow → Shared → Prop} {m : Str → Option Value} {news : List (Addr × Obj)} {tx : Bool} {rs : List Nat} {ov : Value}
    (G : Gr w mg mb B) (hB : Heap.StaysIn B h₀) (R : Rm A 1) (O : Oth tx h₀ rs ov) (F : Fr h₀ env.locals s.heap m) (N : News h₀ env.locals s.heap news)
    (kit : ∀ (ws : Array Value) (rs' : List Nat), Ths tx rs' ws.toList → (∀ r, rs'.contains r = rs.contains r) → rs'.length < 900 → ∃ J : Nat → (Str → Option Value) → List (Addr × Obj) → Prop, J 0 m news ∧
      (∀ i v m₁ news₁ h₁ tk₁ I oI, ws[i]? = some v → J i m₁ news₁ → Fr h₀ env.locals h₁ m₁ → News h₀ env.locals h₁ ((I, oI) :: news₁) → (∀ p ∈ news₁, p.1 ≠ I) →
        wpAny (model PySem.Challenge.rw_vk0007_01.row.prog w) A (assign target env v) (fun _ s₂ => wpAny (model PySem.Challenge.rw_vk0007_01.row.prog w) A (execs body env) (TurnEnd h₀ env.locals I oI (J (i + 1)) s Rr) (fun _ _ => False) s₂) (fun _ _ => False) { s with heap := h₁, toks := tk₁ }) ∧
      ∀ m₁ news₁ h₁ tk₁, J ws.size m₁ news₁ → Fr h₀ env.locals h₁ m₁ → News h₀ env.locals h₁ news₁ → Rr .next { s with heap := h₁, toks := tk₁ }) :
    wpAny (model PySem.Challenge.rw_vk0007_01.row.prog w) A (pyIter ov) (fun it s₂ => codeAny (model PySem.Challenge.rw_vk0007_01.row.prog w) A (.forLoop target it body [] env) (fun r s' => match r with | .ok f => Rr f s' | .error e => cameBackBy (model PySem.Challenge.rw_vk0007_01.row.prog w) A env E e s') s₂) E s := by
  cases O with
  | list l t n =>
    obtain ⟨J, j0, turn, done⟩ := kit _ _ t (fun _ => rfl) n
    obtain ⟨ol, hl1, hl2, nl, hl3⟩ := id l
    exact iter_list R.hh J (upL F l) (fun _ h _ _ F _ _ => F.keep _ _ hl1) F N j0 turn done
  | tuple l t n =>
    obtain ⟨J, j0, turn, done⟩ := kit _ _ t (fun _ => rfl) n
    obtain ⟨ol, hl1, hl2, nl, hl3⟩ := id l
    exact iter_tuple R.hh J ⟨ol, F.keep _ _ hl1, hl2, nl, hl3⟩ (fun _ h _ _ F _ _ => F.keep _ _ hl1) F N j0 turn done
  | @set x l vs ds S hl t so c n =>
    obtain ⟨J, j0, turn, done⟩ := kit _ _ t c n
    obtain ⟨ol, hl1, hl2, nl, hl3⟩ := id hl
    refine pyIter_set F G hB R (S.stays F.keep) (upL F hl) fun h' tk I k e f => ?_
    have F' := F.keeps k
    have N' := news_new F N k f e
    have hlI : l ≠ I := ne_cls (F'.keep _ _ hl1) e (by rw [hl2]; simp)
    exact loopW (s := { s with heap := h', toks := tk }) (Walks.list R.hh I l hlI vs) (fun i v s' Q E st q => letGo_listiter st.1 q) (fun i h st => (by obtain ⟨o, e, _⟩ := st.1; exact ⟨o, e⟩))
      J (fun _ h _ _ F _ _ => F.keep _ _ hl1) ⟨⟨_, e, rfl, rfl⟩, upL F' hl⟩ _ F' N' (fun p hp q => by
        have z := (N p hp).1
        rw [q, f] at z; cases z) j0 (fun i v m₁ news₁ h₁ tk₁ oI a b c d e => wpAny_mono (turn i v m₁ news₁ h₁ tk₁ _ oI a b c d e) (fun _ _ q => wpAny_mono q (fun f s₃ z => (by cases f <;> exact z)) fun _ _ q => q) fun _ _ q => q) done
end
end Mine

end

open PySem PySem.W PyProof.Rows in
example : True := by
  w_top off
  trivial
open PySem PySem.W PyProof.Rows in
example {M : Model} {A : Around} {E : Value → Shared → Prop} {s : Shared} {Q : Unit → Shared → Prop} (h : Q () s) : wpAny M A (pure ()) Q E s := by
  first
    | (walk1; exact h)
    | exact wpAny_pure h
section
open PySem PySem.W PyProof.Rows PySem.Calls
set_option Elab.async false
set_option maxRecDepth 100000
set_option maxHeartbeats 4000000
set_option linter.unusedVariables false
set_option pp.deepTerms.threshold 5
set_option pp.maxSteps 2000
namespace Mine
-- HEAD
example : PySem.Challenge.rw_vk0007_01 = PySem.Challenge.rw_vk0007_01 ∧ hd.heap_39 = hd.heap_39 := by
  k_fill
  exact ⟨rfl, rfl⟩
local macro_rules | `(tactic| walk_at "getAttr ref") => `(tactic| k_dflt (refine items_at (by assumption) (by assumption) (SetIs.stays (by assumption) (Fr.keep (by assumption))) ?_))
local macro_rules | `(tactic| walk_at "getMethod ref") => `(tactic| k_dflt (refine' meth_at ?f ?g ?s ?k1 ?k2 ?k3 ?k4 ?_; (case f => assumption); (case g => assumption); (case s => exact SetIs.stays (by assumption) (Fr.keep (by assumption))); (case k1 => k_is); (case k2 => k_is); (case k3 => k_is); (case k4 => decide)))
local macro_rules | `(tactic| walk_at "eval Name") => `(tactic| k_dflt (first
  | (refine' nameX_L ?hf ?hv ?_; (case hf => assumption); (case hv => first | (with_unfolding_all rfl) | (with_unfolding_all assumption)))
  | (refine name_B (by assumption) (by assumption) (by k_is) (by first | exact boot_reversed | exact boot_list | exact boot_range | exact boot_tuple | rfl) (by decide) ?_)
  | (refine name_G (by assumption) (by assumption) (by k_is) ?_)))
-- BODY
section
variable {w : World} {A : Around} {s : Shared} {mg mb : Str → Option Value} {B : Heap} {Q : Value → Shared → Prop} {E : Value → Shared → Prop}

theorem Ths.lt {tx : Bool} {rs : List Nat} {vs : List Value} (t : Ths tx rs vs) : ∀ r ∈ rs, r < 9 := by
  induction t with
  | nil => intro r h; cases h
  | cons a _ ih =>
    intro r h
    rcases List.mem_cons.mp h with rfl | h
    · exact a.1
    · exact ih r h
theorem Ths.len9 {tx : Bool} {ds : List Nat} {vs : List Value} (t : Ths tx ds vs) (hs : ds.Pairwise (· < ·)) : ds.length ≤ 9 := sorted_len9 hs t.lt

theorem union_code {x l : Addr} {vs : Array Value} {ds : List Nat} {rows : List (List Nat)} {ovs : List Value} {tx : Bool}
    (G : Gr w mg mb B) (hB : Heap.StaysIn B s.heap) (R : Rm A 8) (S : SetIs s.heap x l) (hl : s.heap.IsList l vs) (hT : Ths tx ds vs.toList) (hs : ds.Pairwise (· < ·)) (O : Oths tx s.heap rows ovs) (hov : ovs.length ≤ 1000)
    (h : ∀ h' tk x dx l, NewSet tx s.heap h' x dx l (rows.flatten.foldl ins ds) → Q (.ref x) { s with heap := h', toks := tk }) :
    codeAny (model PySem.Challenge.rw_vk0007_01.row.prog w) A (.call (.ref 261) ⟨.ref x :: ovs, []⟩) (fun r s' => match r with | .ok (.ret v) => Q v s' | .ok _ => False | .error e => E e s') s := by
  have G₀ := G.keeps hB
  refine enterSC G₀.K G₀.T.nolimit (by k_is) (by k_is) R.room hov ⟨rfl, rfl⟩ ?_ (by decide)
  intro t L h₁ tk₁ F N
  have KX := G₀.K
  have hlen := hT.len9 hs
  have hsz : ds.length = vs.size := hT.len.trans (Array.length_toList (xs := vs))
  repeat' walk1
  refine make0_new (tx := tx) G (up F hB) ((R.deeper _).less (by omega)) ?_
  intro h₂ tk₂ y dy ly Y
  have F₂ := F.keeps Y.keep
  obtain ⟨hsh, tk', n, vs₀, ep₀, T₀, N₂, hxl, hdl, hxd, hnt⟩ := Y.news F N
  have n1 := neN hxl
  have n2 := neN hdl
  have n3 := neN hxd
  clear F N
  repeat' walk1
  rename Fr _ _ _ _ => F₃
  rename News _ _ _ _ => N₃
  rename_i hA l2 c2 hC l1
  refine set_items F₃ G₀ N₃ (N₃ _ (.tail _ (.tail _ (.head _)))).1 (N₃ _ (.tail _ (.tail _ (.tail _ (.head _))))).1
    (.tail (Nat.ne_of_gt l1.2.2.1) (.tail (Ne.symm hdl) (.tail hxd (.head fun p hp => (by rw [List.mem_singleton.mp hp]; exact (hnt _ (.head _)).2.2))))) ?_
  intro h₄ F₄ N₄
  clear F₃ N₃
  have N₅ : News s.heap L h₄ [(l2, listOf vs c2), (y, instObj 306 dy), (dy, itemsDict hsh tk' l2 n), (t, tupOf ovs)] := fun p hp => N₄ p (by revert p; k_allIn)
  have d1 : y ≠ l2 := Nat.ne_of_lt l1.2.1
  have d2 : dy ≠ l2 := Nat.ne_of_lt l1.2.2.1
  have d3 : t ≠ l2 := Nat.ne_of_lt l1.2.2.2
  clear N₄
  iterate 1 walk1
  refine wpAny_For ?_
  walk1
  refine iter_tuple (oax := tupOf ovs) (items := ovs.toArray) R.hh (fun i m news => ∃ vs' ep', m "union" = some (.ref y) ∧ news = [(l2, listOf vs' ep'), (y, instObj 306 dy), (dy, itemsDict hsh tk' l2 n), (t, tupOf ovs)] ∧ Ths tx ((rows.take i).flatten.foldl ins ds) vs'.toList)
    ⟨_, (N₅ _ (.tail _ (.tail _ (.tail _ (.head _))))).1, rfl, _, rfl⟩ ?_ F₄ N₅ ⟨vs, c2, rfl, rfl, hT⟩ ?_ ?_
  · rintro i h m news F N ⟨vs', ep', e1, rfl, e2⟩
    exact (N _ (.tail _ (.tail _ (.tail _ (.head _))))).1
  · rintro i v m₁ news₁ h₆ tk₆ I oI hi ⟨vs', ep', e1, rfl, e2⟩ F₆ N₆ hI
    clear F₄ N₅
    obtain ⟨rs, hr1, hr2⟩ := O.get (i := i) (v := v) (by simpa using hi)
    iterate 4 walk1
    refine wpAny_For ?_
    walk1
    rename Fr _ _ _ _ => F₇
    rename News _ _ _ _ => N₇
    clear F₆ N₆
    have hs0 : ((rows.take i).flatten.foldl ins ds).Pairwise (· < ·) := insAll_sorted hs
    refine iter_oth G hB ((R.deeper _).less (by omega)) hr2 F₇ N₇ ?_
    intro ws rs' tws hc' hlr
    have hwsz : rs'.length = ws.size := tws.len.trans (Array.length_toList (xs := ws))
    have hIl : l2 ≠ I := hI _ (.head _)
    refine ⟨fun j m news => ∃ vs' ep', m "union" = some (.ref y) ∧ news = [(I, oI), (l2, listOf vs' ep'), (y, instObj 306 dy), (dy, itemsDict hsh tk' l2 n), (t, tupOf ovs)] ∧ Ths tx ((rs'.take j).foldl ins ((rows.take i).flatten.foldl ins ds)) vs'.toList, ⟨vs', ep', e1, rfl, e2⟩, ?_, ?_⟩
    · rintro j v₁ m₂ news₂ h₈ tk₈ I₂ oI₂ hj ⟨vs₈, ep₈, g1, rfl, g2⟩ F₈ N₈ hI₂
      clear F₇ N₇
      repeat' walk1
      rename Fr _ _ _ _ => F₉
      rename News _ _ _ _ => N₉
      clear F₈ N₈
      obtain ⟨r, q1, q2⟩ := tws.get (i := j) (v := v₁) (by simpa using hj)
      have so : ((rs'.take j).foldl ins ((rows.take i).flatten.foldl ins ds)).Pairwise (· < ·) := insAll_sorted hs0
      have hl9 := g2.len9 so
      have hIl2 : l2 ≠ I₂ := hI₂ _ (.tail _ (.head _))
      refine add_spec G (up F₉ hB) (none_of hB (N₉ _ (.tail _ (.tail _ (.head _)))).2.2) ((R.deeper _).less (by omega)) ⟨_, _, _, _, (N₉ _ (.tail _ (.tail _ (.tail _ (.head _))))).1, (N₉ _ (.tail _ (.tail _ (.tail _ (.tail _ (.head _)))))).1⟩ (N₉ _ (.tail _ (.tail _ (.head _)))).1 g2 q2 so (by omega) ?_
      intro h₅ tk₅ vs₅ ep₅ k₅ e₅ T₅
      have F₅ := fr_off1 F₉ N₉ (.tail _ (.tail _ (.head _))) k₅
      have N₅ := news_put (pre := [(I₂, oI₂), (I, oI)]) (post := [(y, instObj 306 dy), (dy, itemsDict hsh tk' l2 n), (t, tupOf ovs)]) N₉ k₅ e₅
        (fun p hp => by
          rcases List.mem_cons.mp hp with rfl | hp
          · exact hIl2.symm
          · rw [List.mem_singleton.mp hp]; exact hIl.symm)
        (fun p hp => by
          rcases List.mem_cons.mp hp with rfl | hp
          · exact d1
          rcases List.mem_cons.mp hp with rfl | hp
          · exact d2
          · rw [List.mem_singleton.mp hp]; exact d3)
      repeat' walk1
      exact TurnEnd.intro F₅ N₅ (fun p hp => by
          rcases List.mem_cons.mp hp with rfl | hp
          · exact hI₂ _ (.head _)
          rcases List.mem_cons.mp hp with rfl | hp
          · exact hIl2
          · exact hI₂ p (.tail _ (.tail _ hp))) ⟨vs₅, ep₅, g1, rfl, by rw [foldl_snoc _ _ _ q1]; exact T₅⟩
    · rintro m₂ news₂ h₈ tk₈ ⟨vs₈, ep₈, g1, rfl, g2⟩ F₈ N₈
      rw [← hwsz, List.take_length, insAll_congr hs0 hc', ← flat_snoc hr1] at g2
      repeat' walk1
      exact TurnEnd.intro F₈ N₈ (fun p hp => by
          rcases List.mem_cons.mp hp with rfl | hp
          · exact hIl
          · exact hI p (.tail _ hp)) ⟨vs₈, ep₈, g1, rfl, g2⟩
  · rintro m₁ news₁ h₂ tk₂ ⟨vs', ep', e1, rfl, e2⟩ F₆ N₆
    rw [List.size_toArray, ← O.len, List.take_length] at e2
    repeat' walk1
    exact h _ _ y dy l2 ⟨F₆.keep, (N₆ _ (.tail _ (.head _))).2.2, (N₆ _ (.tail _ (.tail _ (.head _)))).2.2, (N₆ _ (.head _)).2.2, (N₆ _ (.tail _ (.head _))).1, ⟨_, _, _, (N₆ _ (.tail _ (.tail _ (.head _)))).1⟩, ⟨_, _, (N₆ _ (.head _)).1, e2⟩⟩
theorem union_spec {x l : Addr} {vs : Array Value} {ds : List Nat} {rows : List (List Nat)} {ovs : List Value} {tx : Bool}
    (G : Gr w mg mb B) (hB : Heap.StaysIn B s.heap) (R : Rm A 8) (S : SetIs s.heap x l) (hl : s.heap.IsList l vs) (hT : Ths tx ds vs.toList) (hs : ds.Pairwise (· < ·)) (O : Oths tx s.heap rows ovs) (hov : ovs.length ≤ 1000)
    (h : ∀ h' tk x dx l, NewSet tx s.heap h' x dx l (rows.flatten.foldl ins ds) → Q (.ref x) { s with heap := h', toks := tk }) :
    wpAny (model PySem.Challenge.rw_vk0007_01.row.prog w) A (call (.ref 261) (.ref x :: ovs)) Q E s :=
  wpAny_call (union_code G hB R S hl hT hs O hov h)
end
end Mine

end

open PySem PySem.W PyProof.Rows in
example : True := by
  w_top off
  trivial
open PySem PySem.W PyProof.Rows in
example {M : Model} {A : Around} {E : Value → Shared → Prop} {s : Shared} {Q : Unit → Shared → Prop} (h : Q () s) : wpAny M A (pure ()) Q E s := by
  first
    | (walk1; exact h)
    | exact wpAny_pure h
section
open PySem PySem.W PyProof.Rows PySem.Calls
set_option Elab.async false
set_option maxRecDepth 100000
set_option maxHeartbeats 4000000
set_option linter.unusedVariables false
set_option pp.deepTerms.threshold 5
set_option pp.maxSteps 2000
namespace Mine
-- HEAD
example : PySem.Challenge.rw_vk0007_01 = PySem.Challenge.rw_vk0007_01 ∧ hd.heap_39 = hd.heap_39 := by
  k_fill
  exact ⟨rfl, rfl⟩
local macro_rules | `(tactic| walk_at "getAttr ref") => `(tactic| k_dflt (refine items_at (by assumption) (by assumption) (SetIs.stays (by assumption) (Fr.keep (by assumption))) ?_))
local macro_rules | `(tactic| walk_at "getMethod ref") => `(tactic| k_dflt (refine' meth_at ?f ?g ?s ?k1 ?k2 ?k3 ?k4 ?_; (case f => assumption); (case g => assumption); (case s => exact SetIs.stays (by assumption) (Fr.keep (by assumption))); (case k1 => k_is); (case k2 => k_is); (case k3 => k_is); (case k4 => decide)))
local macro_rules | `(tactic| walk_at "eval Name") => `(tactic| k_dflt (first
  | (refine' nameX_L ?hf ?hv ?_; (case hf => assumption); (case hv => first | (with_unfolding_all rfl) | (with_unfolding_all assumption)))
  | (refine name_B (by assumption) (by assumption) (by k_is) (by first | exact boot_reversed | exact boot_list | exact boot_range | exact boot_tuple | rfl) (by decide) ?_)
  | (refine name_G (by assumption) (by assumption) (by k_is) ?_)))
-- BODY
section
variable {w : World} {A : Around} {s : Shared} {mg mb : Str → Option Value} {B : Heap} {Q : Value → Shared → Prop} {E : Value → Shared → Prop}

theorem sub_spec {x l : Addr} {vs : Array Value} {ds rs : List Nat} {ov : Value} {tx : Bool}
    (G : Gr w mg mb B) (hB : Heap.StaysIn B s.heap) (R : Rm A 7) (S : SetIs s.heap x l) (hl : s.heap.IsList l vs) (hT : Ths tx ds vs.toList) (hs : ds.Pairwise (· < ·)) (O : Oth tx s.heap rs ov)
    (h : ∀ h' tk x dx l, NewSet tx s.heap h' x dx l (ds.filter fun d => !rs.contains d) → Q (.ref x) { s with heap := h', toks := tk }) :
    wpAny (model PySem.Challenge.rw_vk0007_01.row.prog w) A (call (.ref 149) [.ref x, ov]) Q E s := by
  have hlen := hT.len9 hs
  refine enter0 [("self", .ref x), ("other", ov)] (G.K.keeps hB) (G.T.nolimit.keeps hB) (by k_is) (by k_is) R.room (BindsTo.of_eq rfl) rfl ?_ (by decide)
  intro L h₁ F N
  have G₀ := G.keeps hB
  have KX := G₀.K
  repeat' walk1
  refine diff_spec G (up F hB) (R.deeper _) (S.stays F.keep) (upL F hl) hT hs (by omega) (O.stays F.keep) ?_
  intro h' tk y dy ly Y
  dsimp only
  exact h _ _ y dy ly ⟨fun b o e => Y.keep b o (F.keep b o e), none_of F.keep Y.fx, none_of F.keep Y.fd, none_of F.keep Y.fl, Y.ox, Y.od, Y.ol⟩

theorem isdisjoint_spec {x l : Addr} {vs : Array Value} {ds rs : List Nat} {ov : Value} {tx : Bool}
    (G : Gr w mg mb B) (hB : Heap.StaysIn B s.heap) (R : Rm A 7) (S : SetIs s.heap x l) (hl : s.heap.IsList l vs) (hT : Ths tx ds vs.toList) (hs : ds.Pairwise (· < ·)) (O : Oth tx s.heap rs ov)
    (h : ∀ h' tk, Heap.StaysIn s.heap h' → Q (.bool ((ds.filter fun d => rs.contains d) == [])) { s with heap := h', toks := tk }) :
    wpAny (model PySem.Challenge.rw_vk0007_01.row.prog w) A (call (.ref 226) [.ref x, ov]) Q E s := by
  have hlen := hT.len9 hs
  refine enter0 [("self", .ref x), ("other", ov)] (G.K.keeps hB) (G.T.nolimit.keeps hB) (by k_is) (by k_is) R.room (BindsTo.of_eq rfl) rfl ?_ (by decide)
  intro L h₁ F N
  have G₀ := G.keeps hB
  have KX := G₀.K
  repeat' walk1
  refine isect_spec G (up F hB) (R.deeper _) (S.stays F.keep) (upL F hl) hT hs (by omega) (O.stays F.keep) ?_
  intro h' tk y dy ly Y
  have F₂ := F.keeps Y.keep
  obtain ⟨vs₀, ep₀, el, T₀⟩ := Y.ol
  have hsz := T₀.len.trans (Array.length_toList (xs := vs₀))
  have hfl := List.length_filter_le (fun d => rs.contains d) ds
  repeat' walk1
  refine len_set F₂ G hB ((R.deeper _).less (by omega)) Y.is (listAt el) (by omega) ?_
  intro h₃ tk₃ t₃ k₃
  have F₃ := F₂.keeps k₃
  repeat' walk1
  have e : ((vs₀.size : Int) == 0) = ((ds.filter fun d => rs.contains d) == []) := bool_ext (by
    rw [beq_iff_eq, beq_iff_eq, ← List.length_eq_zero_iff]
    omega)
  rw [e]
  exact h _ _ F₃.keep

theorem issubset_spec {x l : Addr} {vs : Array Value} {ds rs : List Nat} {ov : Value} {tx : Bool}
    (G : Gr w mg mb B) (hB : Heap.StaysIn B s.heap) (R : Rm A 7) (S : SetIs s.heap x l) (hl : s.heap.IsList l vs) (hT : Ths tx ds vs.toList) (hs : ds.Pairwise (· < ·)) (O : Oth tx s.heap rs ov)
    (h : ∀ h' tk, Heap.StaysIn s.heap h' → Q (.bool ((ds.filter fun d => !rs.contains d) == [])) { s with heap := h', toks := tk }) :
    wpAny (model PySem.Challenge.rw_vk0007_01.row.prog w) A (call (.ref 233) [.ref x, ov]) Q E s := by
  have hlen := hT.len9 hs
  have hsz0 := hT.len.trans (Array.length_toList (xs := vs))
  refine enter0 [("self", .ref x), ("other", ov)] (G.K.keeps hB) (G.T.nolimit.keeps hB) (by k_is) (by k_is) R.room (BindsTo.of_eq rfl) rfl ?_ (by decide)
  intro L h₁ F N
  have G₀ := G.keeps hB
  have KX := G₀.K
  repeat' walk1
  refine isect_spec G (up F hB) (R.deeper _) (S.stays F.keep) (upL F hl) hT hs (by omega) (O.stays F.keep) ?_
  intro h' tk y dy ly Y
  have F₂ := F.keeps Y.keep
  obtain ⟨vs₀, ep₀, el, T₀⟩ := Y.ol
  have hsz := T₀.len.trans (Array.length_toList (xs := vs₀))
  have hfl := List.length_filter_le (fun d => rs.contains d) ds
  repeat' walk1
  refine len_set F₂ G hB ((R.deeper _).less (by omega)) Y.is (listAt el) (by omega) ?_
  intro h₃ tk₃ t₃ k₃
  have F₃ := F₂.keeps k₃
  have hlv : vs.size < 1000 := by omega
  repeat' walk1
  have e : ((vs₀.size : Int) == (vs.size : Int)) = ((ds.filter fun d => !rs.contains d) == []) := bool_ext (by
    rw [beq_iff_eq, beq_iff_eq, filter_none_iff]
    omega)
  rw [e]
  exact h _ _ F₃.keep
end
end Mine

end

open PySem PySem.W PyProof.Rows in
example : True := by
  w_top off
  trivial
open PySem PySem.W PyProof.Rows in
example {M : Model} {A : Around} {E : Value → Shared → Prop} {s : Shared} {Q : Unit → Shared → Prop} (h : Q () s) : wpAny M A (pure ()) Q E s := by
  first
    | (walk1; exact h)
    | exact wpAny_pure h
section
open PySem PySem.W PyProof.Rows PySem.Calls
set_option Elab.async false
set_option maxRecDepth 100000
set_option maxHeartbeats 4000000
set_option linter.unusedVariables false
set_option pp.deepTerms.threshold 5
set_option pp.maxSteps 2000
namespace Mine
-- HEAD
example : PySem.Challenge.rw_vk0007_01 = PySem.Challenge.rw_vk0007_01 ∧ hd.heap_39 = hd.heap_39 := by
  k_fill
  exact ⟨rfl, rfl⟩
local macro_rules | `(tactic| walk_at "getAttr ref") => `(tactic| k_dflt (refine items_at (by assumption) (by assumption) (SetIs.stays (by assumption) (Fr.keep (by assumption))) ?_))
local macro_rules | `(tactic| walk_at "getMethod ref") => `(tactic| k_dflt (refine' meth_at ?f ?g ?s ?k1 ?k2 ?k3 ?k4 ?_; (case f => assumption); (case g => assumption); (case s => exact SetIs.stays (by assumption) (Fr.keep (by assumption))); (case k1 => k_is); (case k2 => k_is); (case k3 => k_is); (case k4 => decide)))
local macro_rules | `(tactic| walk_at "eval Name") => `(tactic| k_dflt (first
  | (refine' nameX_L ?hf ?hv ?_; (case hf => assumption); (case hv => first | (with_unfolding_all rfl) | (with_unfolding_all assumption)))
  | (refine name_B (by assumption) (by assumption) (by k_is) (by first | exact boot_reversed | exact boot_list | exact boot_range | exact boot_tuple | rfl) (by decide) ?_)
  | (refine name_G (by assumption) (by assumption) (by k_is) ?_)))
-- BODY
section
variable {w : World} {A : Around} {s : Shared} {mg mb : Str → Option Value} {B : Heap} {Q : Value → Shared → Prop} {E : Value → Shared → Prop}

theorem del_all {l sl : Addr} {items : Array Value} {n : Nat} {Q : Unit → Shared → Prop} (hl : s.heap.get? l = some (listOf items n)) (hs : s.heap.IsSliceOf sl .none .none .none) (hsz : items.size ≤ sizeLine)
    (h : ∀ h' ep', Heap.SameBut l s.heap h' → h'.get? l = some (listOf #[] ep') → Q () { s with heap := h' }) :
    wpAny (model PySem.Challenge.rw_vk0007_01.row.prog w) A (delItem (.ref l) (.ref sl)) Q E s := by
  obtain ⟨os, hos, hcs, hds⟩ := id hs
  have hL : s.heap.IsList l items := listAt hl
  have hTs : s.TypeIs (.ref sl) "slice" := ⟨os, hos, hcs⟩
  refine wpAny_delItem_slot hL.typeIs (by decide) F.slot_list_delitem (wpAny_call_entry F.slot_list_delitem hL.typeIs F.entry_list_delitem ?_ (F.args_list_delitem_2 _ _))
  show wpAny _ _ (Builtin.List.listSubscript? (.ref sl) >>= _) _ _ s
  refine wpAny_bind ?_
  unfold Builtin.List.listSubscript?
  refine wpAny_bind (wpAny_specialOf hTs slice_no_index ?_)
  simp only [Option.isNone_none, if_true]
  refine wpAny_pure ?_
  show wpAny _ _ (typeOf (.ref sl) >>= _) _ _ s
  refine wpAny_bind (wpAny_typeOf hTs ?_)
  rw [if_neg (by decide)]
  rw [listSliceParts_eq]
  refine wpAny_bind (wpAny_bind (wpAny_field hos hds (x := .none) rfl (wpAny_bind (wpAny_listPart .none ?_))))
  rw [if_neg (show ¬ ((rawPart none == rawInt 0) = true) from Bool.false_ne_true)]
  refine wpAny_bind (wpAny_field hos hds (x := .none) rfl (wpAny_bind (wpAny_listPart .none ?_)))
  refine wpAny_bind (wpAny_field hos hds (x := .none) rfl (wpAny_bind (wpAny_listPart .none (wpAny_pure ?_))))
  refine wpAny_bind (m := Builtin.List.listItems (.ref l)) ?_
  unfold Builtin.List.listItems
  refine wpAny_bind (wpAny_seqItems hl rfl (wpAny_pure ?_))
  refine wpAny_bind (wpAny_of_eq (sliceIndices_raw none none none items.size (by simp)) ?_)
  refine wpAny_bind (wpAny_rule ?_)
  have fin : ∀ f : Array Value → Array Value, f items = #[] → Q () { s with heap := s.heap.update l (Obj.mapSeq f) } := fun f hf => h _ _ (Heap.SameBut.update ..) (by
    have q := PySem.IsL.update hl f
    rw [hf] at q
    exact q)
  have nil : ∀ p : Value × Nat → Option Value, (∀ q ∈ items.toList.zipIdx, p q = none) → (items.toList.zipIdx.filterMap p).toArray = #[] := fun p hp => by rw [List.filterMap_eq_nil_iff.mpr hp]
  have sel : ∀ q ∈ items.toList.zipIdx, (if (1 : Int) > 0 then (decide ((0 : Int) ≤ (q.2 : Int)) && decide ((q.2 : Int) < (items.size : Int)) && (((q.2 : Int) - 0) % 1 == 0)) else (decide ((items.size : Int) < (q.2 : Int)) && decide ((q.2 : Int) ≤ 0) && ((0 - (q.2 : Int)) % (-1) == 0))) = true := fun q hq => by
    have hlt : q.2 < items.size := by
      have := List.snd_lt_of_mem_zipIdx hq
      simpa using this
    rw [if_pos (by decide)]
    simp only [Bool.and_eq_true, decide_eq_true_eq, beq_iff_eq]
    omega
  refine wpAny_bind (listUpdate_at hl rfl ?_ hsz ?_)
  · refine wpAny_bind (wpAny_letGo (wpAny_pure ⟨_, rfl, ?_⟩))
    refine fin _ (nil _ fun q hq => if_pos ?_)
    exact sel q hq
  · refine Nat.le_trans (Nat.le_of_eq (congrArg Array.size (nil _ fun q hq => if_pos ?_))) (Nat.zero_le _)
    exact sel q hq

theorem clear_spec {x l : Addr} {vs : Array Value} {ep : Nat}
    (G : Gr w mg mb B) (hB : Heap.StaysIn B s.heap) (hlB : B.get? l = none) (R : Rm A 2) (S : SetIs s.heap x l) (hl : s.heap.get? l = some (listOf vs ep)) (hlen : vs.size < 1000)
    (h : ∀ h' tk ep', Off [l] s.heap h' → h'.get? l = some (listOf #[] ep') → Q .none { s with heap := h', toks := tk }) :
    wpAny (model PySem.Challenge.rw_vk0007_01.row.prog w) A (call (.ref 212) [.ref x]) Q E s := by
  refine enter1 [("self", .ref x)] (G.K.keeps hB) (G.T.nolimit.keeps hB) (by k_is) (by k_is) R.room (BindsTo.of_eq rfl) rfl hl ?_ (by decide)
  intro L h₁ F N
  have hB₀ : Heap.StaysIn B (hideAll s.heap [l]) := stays_hide hB (by intro a ha; rw [List.mem_singleton.mp ha]; exact hlB)
  have G₀ := G.keeps hB₀
  have KX := G₀.K
  have S₀ := S.hide hl
  repeat' walk1
  rename Fr _ _ _ _ => F₁
  rename News _ _ _ _ => N₁
  refine del_all (n := ep) (Heap.get?_push_of_some _ (N₁ _ (.head _)).1) ⟨_, Heap.get?_push_size _ rfl, rfl, rfl⟩ (by rw [sizeLine_eq]; omega) ?_
  intro h₂ ep' k₂ e₂
  have F₂ := fr_off1 (F₁.push _) (N₁.push F₁ { cls := .type "slice", data := .fields #[.none, .none, .none] }) (.tail _ (.head _)) (off_same k₂)
  repeat' walk1
  exact h _ _ _ (fr_hide F₂) e₂

theorem delitem_spec {x l : Addr} {vs : Array Value} {ep i : Nat} {t : Tok}
    (G : Gr w mg mb B) (hB : Heap.StaysIn B s.heap) (hlB : B.get? l = none) (R : Rm A 2) (S : SetIs s.heap x l) (hl : s.heap.get? l = some (listOf vs ep)) (hlen : vs.size < 1000) (hi : i < vs.size)
    (h : ∀ h' tk ep', Off [l] s.heap h' → h'.get? l = some (listOf (vs.eraseIdxIfInBounds i) ep') → Q .none { s with heap := h', toks := tk }) :
    wpAny (model PySem.Challenge.rw_vk0007_01.row.prog w) A (call (.ref 191) [.ref x, .int i t]) Q E s := by
  refine enter1 [("self", .ref x), ("i", .int i t)] (G.K.keeps hB) (G.T.nolimit.keeps hB) (by k_is) (by k_is) R.room (BindsTo.of_eq rfl) rfl hl ?_ (by decide)
  intro L h₁ F N
  have hB₀ : Heap.StaysIn B (hideAll s.heap [l]) := stays_hide hB (by intro a ha; rw [List.mem_singleton.mp ha]; exact hlB)
  have G₀ := G.keeps hB₀
  have KX := G₀.K
  have S₀ := S.hide hl
  repeat' walk1
  rename Fr _ _ _ _ => F₁
  rename News _ _ _ _ => N₁
  have f1 : Builtin.List.listFitsIndex (i : Int) = true := by
    simp [Builtin.List.listFitsIndex]; omega
  have f2 : seqIndex? (i : Int) vs.size = some i := by
    have q : ¬ ((i : Int) < 0) := by omega
    simp [seqIndex?, q, hi]
  have f3 : vs.size ≤ sizeLine := by rw [sizeLine_eq]; omega
  refine P.delItem_list (items := vs) (n := ep) (k := i) (N₁ _ (.head _)).1 f1 f2 ?_ f3
  have k₂ : Heap.SameBut l h₁ (h₁.update l (Obj.mapSeq fun xs => xs.eraseIdxIfInBounds i)) := Heap.SameBut.update ..
  have e₂ := PySem.IsL.update (N₁ _ (.head _)).1 (fun xs => xs.eraseIdxIfInBounds i)
  have F₂ := fr_off1 F₁ N₁ (.head _) (off_same k₂)
  repeat' walk1
  exact h _ _ _ (fr_hide F₂) e₂

theorem getitem_spec {x l : Addr} {vs : Array Value} {k : Int} {t : Tok} {v : Value}
    (G : Gr w mg mb B) (hB : Heap.StaysIn B s.heap) (R : Rm A 2) (S : SetIs s.heap x l) (hl : s.heap.IsList l vs) (hlen : vs.size < 1000) (h0 : -(vs.size : Int) ≤ k) (h1 : k < vs.size) (hv : vs[(if k < 0 then k + vs.size else k).toNat]? = some v)
    (h : ∀ h' tk, Heap.StaysIn s.heap h' → Q v { s with heap := h', toks := tk }) :
    wpAny (model PySem.Challenge.rw_vk0007_01.row.prog w) A (call (.ref 51) [.ref x, .int k t]) Q E s := by
  refine enter0 [("self", .ref x), ("i", .int k t)] (G.K.keeps hB) (G.T.nolimit.keeps hB) (by k_is) (by k_is) R.room (BindsTo.of_eq rfl) rfl ?_ (by decide)
  intro L h₁ F N
  have G₀ := G.keeps hB
  have KX := G₀.K
  repeat' walk1
  by_cases hk : k < 0
  · rw [if_pos hk] at hv
    refine tail_any (upL F hl).typeIs slot_list_getitem.lookup (wpAny_getItem_list_neg (upL F hl) hk h0 (by omega) hv ?_) (ops := [.ref l, .int k t]) (by with_unfolding_all rfl)
    exact h _ _ F.keep
  · rw [if_neg hk] at hv
    refine item_l (upL F hl) (by omega) (by omega) hv ?_
    exact h _ _ F.keep
end
end Mine

end

open PySem PySem.W PyProof.Rows in
example : True := by
  w_top off
  trivial
open PySem PySem.W PyProof.Rows in
example {M : Model} {A : Around} {E : Value → Shared → Prop} {s : Shared} {Q : Unit → Shared → Prop} (h : Q () s) : wpAny M A (pure ()) Q E s := by
  first
    | (walk1; exact h)
    | exact wpAny_pure h
section
open PySem PySem.W PyProof.Rows PySem.Calls
set_option Elab.async false
set_option maxRecDepth 100000
set_option maxHeartbeats 4000000
set_option linter.unusedVariables false
set_option pp.deepTerms.threshold 5
set_option pp.maxSteps 2000
namespace Mine
-- HEAD
example : PySem.Challenge.rw_vk0007_01 = PySem.Challenge.rw_vk0007_01 ∧ hd.heap_39 = hd.heap_39 := by
  k_fill
  exact ⟨rfl, rfl⟩
local macro_rules | `(tactic| walk_at "getAttr ref") => `(tactic| k_dflt (refine items_at (by assumption) (by assumption) (SetIs.stays (by assumption) (Fr.keep (by assumption))) ?_))
local macro_rules | `(tactic| walk_at "getMethod ref") => `(tactic| k_dflt (refine' meth_at ?f ?g ?s ?k1 ?k2 ?k3 ?k4 ?_; (case f => assumption); (case g => assumption); (case s => exact SetIs.stays (by assumption) (Fr.keep (by assumption))); (case k1 => k_is); (case k2 => k_is); (case k3 => k_is); (case k4 => decide)))
local macro_rules | `(tactic| walk_at "eval Name") => `(tactic| k_dflt (first
  | (refine' nameX_L ?hf ?hv ?_; (case hf => assumption); (case hv => first | (with_unfolding_all rfl) | (with_unfolding_all assumption)))
  | (refine name_B (by assumption) (by assumption) (by k_is) (by first | exact boot_reversed | exact boot_list | exact boot_range | exact boot_tuple | rfl) (by decide) ?_)
  | (refine name_G (by assumption) (by assumption) (by k_is) ?_)))
-- BODY
section
variable {w : World} {A : Around} {s : Shared} {mg mb : Str → Option Value} {B : Heap} {Q : Value → Shared → Prop} {E : Value → Shared → Prop}

theorem bag_spec {l : Addr} {vs : List Value} {ns : List Int}
    (G : Gr w mg mb B) (hB : Heap.StaysIn B s.heap) (R : Rm A 2) (hl : s.heap.IsList l vs.toArray) (hi : IntsAre vs ns) (hlen : vs.length < 1000)
    (h : ∀ h' tk b x t ep, Heap.StaysIn s.heap h' → s.heap.get? b = none → h'.get? b = some (listOf #[.int x t] ep) → Q (.ref b) { s with heap := h', toks := tk }) :
    wpAny (model PySem.Challenge.rw_vk0007_01.row.prog w) A (call (.ref 317) [.ref l]) Q E s := by
  refine enter0 [("script", .ref l)] (G.K.keeps hB) (G.T.nolimit.keeps hB) (by k_is) (by k_is) R.room (BindsTo.of_eq rfl) rfl ?_ (by decide)
  intro L h₁ F N
  have G₀ := G.keeps hB
  have KX := G₀.K
  iterate 5 walk1
  refine wpAny_For ?_
  repeat' walk1
  rename Fr _ _ _ _ => F₂
  rename News _ _ _ _ => N₂
  rename IntsAre _ (List.take 24 ns) => hI₂
  rename_i D2 ws2 hC2 hD2 hE2 hG2
  refine iter_list (oax := listOf ws2.toArray 0) R.hh (fun i m news => (∃ n t, m "n" = some (.int n t)) ∧ news = [(D2, listOf ws2.toArray 0)]) (listAt (N₂ _ (.head _)).1) (fun i h m news F N j => ?_) F₂ N₂ ⟨⟨_, _, rfl⟩, rfl⟩ ?_ ?_
  · rw [j.2] at N
    exact (N _ (.head _)).1
  · rintro i v m₁ news₁ h₄ tk₄ I oI hi ⟨⟨n, t, e1⟩, rfl⟩ F₄ N₄ hI
    clear F₂ N₂
    have hv : ∃ k tv, v = .int k tv := by
      have hlt : i < ws2.length := by
        have := (Array.getElem?_eq_some_iff.mp hi).1
        simpa using this
      have hlt2 : i < (ns.take 24).length := by rw [← hI₂.length]; exact hlt
      obtain ⟨tv, q⟩ := hI₂.get i _ (List.getElem?_eq_getElem hlt2)
      have hi' : ws2[i]? = some v := by simpa using hi
      rw [q] at hi'
      exact ⟨_, _, (Option.some.inj hi').symm⟩
    obtain ⟨k, tv, rfl⟩ := hv
    repeat' walk1
    rename Fr _ _ _ _ => F₅
    rename News _ _ _ _ => N₅
    exact TurnEnd.intro F₅ N₅ hI ⟨⟨_, _, rfl⟩, rfl⟩
  · rintro m₁ news₁ h₄ tk₄ ⟨⟨n, t, e1⟩, rfl⟩ F₄ N₄
    clear F₂ N₂
    repeat' walk1
    rename Fr _ _ _ _ => F₅
    rename News _ _ _ _ => N₅
    exact h _ _ _ _ _ _ F₅.keep (N₅ _ (.head _)).2.2 (N₅ _ (.head _)).1
end
end Mine

end

open PySem PySem.W PyProof.Rows in
example : True := by
  w_top off
  trivial
open PySem PySem.W PyProof.Rows in
example {M : Model} {A : Around} {E : Value → Shared → Prop} {s : Shared} {Q : Unit → Shared → Prop} (h : Q () s) : wpAny M A (pure ()) Q E s := by
  first
    | (walk1; exact h)
    | exact wpAny_pure h
section
open PySem PySem.W PyProof.Rows PySem.Calls
set_option Elab.async false
set_option maxRecDepth 100000
set_option maxHeartbeats 4000000
set_option linter.unusedVariables false
set_option pp.deepTerms.threshold 5
set_option pp.maxSteps 2000
namespace Mine
-- HEAD
example : PySem.Challenge.rw_vk0007_01 = PySem.Challenge.rw_vk0007_01 ∧ hd.heap_39 = hd.heap_39 := by
  k_fill
  exact ⟨rfl, rfl⟩
local macro_rules | `(tactic| walk_at "getAttr ref") => `(tactic| k_dflt (refine items_at (by assumption) (by assumption) (SetIs.stays (by assumption) (Fr.keep (by assumption))) ?_))
local macro_rules | `(tactic| walk_at "getMethod ref") => `(tactic| k_dflt (refine' meth_at ?f ?g ?s ?k1 ?k2 ?k3 ?k4 ?_; (case f => assumption); (case g => assumption); (case s => exact SetIs.stays (by assumption) (Fr.keep (by assumption))); (case k1 => k_is); (case k2 => k_is); (case k3 => k_is); (case k4 => decide)))
local macro_rules | `(tactic| walk_at "eval Name") => `(tactic| k_dflt (first
  | (refine' nameX_L ?hf ?hv ?_; (case hf => assumption); (case hv => first | (with_unfolding_all rfl) | (with_unfolding_all assumption)))
  | (refine name_B (by assumption) (by assumption) (by k_is) (by first | exact boot_reversed | exact boot_list | exact boot_range | exact boot_tuple | rfl) (by decide) ?_)
  | (refine name_G (by assumption) (by assumption) (by k_is) ?_)))
-- BODY
section
variable {w : World} {A : Around} {s : Shared} {mg mb : Str → Option Value} {B : Heap} {Q : Value → Shared → Prop} {E : Value → Shared → Prop}

/-- the rank of the menu's n-th text -/
def permS (n : Nat) : Nat := [0, 3, 6, 5, 7, 2, 4, 8, 1].getD n 0
theorem permS_lt (n : Nat) (h : n < 9) : permS n < 9 := by
  revert n; decide
theorem permS_tab : ∀ n < 9, ([PySem.Str.ofString "", PySem.Str.ofString "a", PySem.Str.ofString "b", PySem.Str.ofString "ab", PySem.Str.ofString "ba", PySem.Str.ofString "B", PySem.Str.ofString "aa", PySem.Str.ofString "z", PySem.Str.ofString "9"] : List PySem.Str).getD n PySem.Str.empty = tabS.getD (permS n) "" := by decide +kernel

theorem things_spec {b : Addr} {x many : Int} {t tm : Tok} {ep : Nat} {tx : Bool}
    (G : Gr w mg mb B) (hB : Heap.StaysIn B s.heap) (R : Rm A 3) (hb : s.heap.get? b = some (listOf #[.int x t] ep)) (hbB : B.get? b = none) (hm : 0 < many) (hm' : many ≤ 10)
    (h : ∀ h' tk x' t' a rs ws ep', Off [b] s.heap h' → h'.get? b = some (listOf #[.int x' t'] ep) → s.heap.get? a = none → a ≠ b → h'.get? a = some (listOf ws ep') → Ths tx rs ws.toList → rs.length < 10 → Q (.ref a) { s with heap := h', toks := tk }) :
    wpAny (model PySem.Challenge.rw_vk0007_01.row.prog w) A (call (.ref 331) [.ref b, .bool tx, .int many tm]) Q E s := by
  refine enter1 [("bag", .ref b), ("is_text", .bool tx), ("many", .int many tm)] (G.K.keeps hB) (G.T.nolimit.keeps hB) (by k_is) (by k_is) R.room (BindsTo.of_eq rfl) rfl hb ?_ (by decide)
  intro L h₁ F N
  have hB₀ : Heap.StaysIn B (hideAll s.heap [b]) := stays_hide hB (by intro a ha; rw [List.mem_singleton.mp ha]; exact hbB)
  have G₀ := G.keeps hB₀
  have KX := G₀.K
  iterate 8 walk1
  refine wpAny_For ?_
  repeat' walk1
  rename Fr _ _ _ _ => F₂
  rename News _ _ _ _ => N₂
  rename_i l2 hA l1 h2
  refine draw_spec G (up F₂ hB₀) ((R.deeper _).less (by omega)) (N₂ _ (.tail _ (.head _))).1 hbB hm (by omega) ?_
  intro h₃ tk₃ t₃ t₃' k₃ e₃
  have F₃ := fr_off1 F₂ N₂ (.tail _ (.head _)) k₃
  have N₃ := news_put (pre := [(l2, listOf #[] 0)]) (post := []) N₂ k₃ e₃ (fun p hp => by rw [List.mem_singleton.mp hp]; exact Nat.ne_of_gt l1) (fun _ hp => nomatch hp)
  clear F₂ N₂
  have hx0 : 0 ≤ x % many := Int.emod_nonneg x (by omega)
  have hx1 : x % many < many := Int.emod_lt_of_pos x hm
  generalize x % many = cnt at hx0 hx1
  repeat' walk1
  rename Fr _ _ _ _ => F₄
  rename News _ _ _ _ => N₄
  rename IsRange _ _ _ _ _ _ _ _ => hrg
  refine iter_range (n := cnt.toNat) R.hh (fun i m news => ∃ x t vs' ep' rs, m "bag" = some (.ref b) ∧ m "is_text" = some (.bool tx) ∧ m "found" = some (.ref l2) ∧ news = [(l2, listOf vs' ep'), (b, listOf #[.int x t] ep)] ∧ Ths tx rs vs'.toList ∧ rs.length = i)
    hrg (small_one (by decide) (by decide) (by omega) (by omega)) (by rw [rangeSize_nat]; omega) F₄ N₄ ⟨_, _, _, _, [], rfl, rfl, rfl, rfl, .nil, rfl⟩ ?_ ?_
  · rintro i t m₁ news₁ h₅ tk₅ I oI hi ⟨x₅, t₅, vs₅, ep₅, rs₅, e1, e2, e3, rfl, e4, e5⟩ F₅ N₅ hI
    clear F₄ N₄
    repeat' walk1
    rename Fr _ _ _ _ => F₆
    rename News _ _ _ _ => N₆
    clear F₅ N₅
    have hIb : b ≠ I := hI _ (.tail _ (.head _))
    refine draw_spec G (up F₆ hB₀) ((R.deeper _).less (by omega)) (N₆ _ (.tail _ (.tail _ (.head _)))).1 hbB (by decide) (by decide) ?_
    intro h₇ tk₇ t₇ t₇' k₇ e₇
    have F₇ := fr_off1 F₆ N₆ (.tail _ (.tail _ (.head _))) k₇
    have N₇ := news_put (pre := [(I, oI), (l2, listOf vs₅ ep₅)]) (post := []) N₆ k₇ e₇ (fun p hp => by
      rcases List.mem_cons.mp hp with rfl | hp
      · exact hIb.symm
      · rw [List.mem_singleton.mp hp]; exact Nat.ne_of_gt l1) (fun _ hp => nomatch hp)
    clear F₆ N₆
    have hx2 : 0 ≤ x₅ % 9 := Int.emod_nonneg x₅ (by decide)
    have hx3 : x₅ % 9 < 9 := Int.emod_lt_of_pos x₅ (by decide)
    generalize x₅ / 9 = x₆ at *
    generalize x₅ % 9 = k at *
    have hv5 := e4.len.trans (Array.length_toList (xs := vs₅))
    have hcb : (cnt.toNat : Int) = cnt := Int.toNat_of_nonneg hx0
    cases tx with
    | false =>
      repeat' walk1
      rename Fr _ _ _ _ => F₈
      rename News _ _ _ _ => N₈
      have N₉ : News (hideAll s.heap [b]) L _ [(I, oI), (l2, listOf vs₅ ep₅), (b, listOf #[.int x₆ t₇] ep)] := fun p hp => N₈ p (by revert p; k_allIn)
      have hlI : l2 ≠ I := hI _ (.head _)
      refine append_K F₈ N₉ (.tail (Ne.symm hlI) (.head fun p hp => by rw [List.mem_singleton.mp hp]; exact Nat.ne_of_lt l1)) ?_ (by rw [sizeLine_eq]; omega)
      intro h₉ F₉ N₁₀
      repeat' walk1
      refine TurnEnd.intro F₉ N₁₀ (fun p hp => by
        rcases List.mem_cons.mp hp with rfl | hp
        · exact hlI
        · rw [List.mem_singleton.mp hp]; exact hIb) ⟨x₆, t₇, _, _, rs₅ ++ [k.toNat], e1, e2, e3, rfl, by rw [Array.toList_push]; exact e4.append (.one ⟨by omega, _, congrArg (fun z => Value.int z _) (by omega)⟩), by simp [e5]⟩
    | true =>
      repeat' walk1
      rename Fr _ _ _ _ => F₈
      rename News _ _ _ _ => N₈
      have N₉ : News (hideAll s.heap [b]) L _ [(I, oI), (l2, listOf vs₅ ep₅), (b, listOf #[.int x₆ t₇] ep)] := fun p hp => N₈ p (by revert p; k_allIn)
      have hlI : l2 ≠ I := hI _ (.head _)
      refine append_K F₈ N₉ (.tail (Ne.symm hlI) (.head fun p hp => by rw [List.mem_singleton.mp hp]; exact Nat.ne_of_lt l1)) ?_ (by rw [sizeLine_eq]; omega)
      intro h₉ F₉ N₁₀
      repeat' walk1
      refine TurnEnd.intro F₉ N₁₀ (fun p hp => by
        rcases List.mem_cons.mp hp with rfl | hp
        · exact hlI
        · rw [List.mem_singleton.mp hp]; exact hIb) ⟨x₆, t₇, _, _, rs₅ ++ [permS k.toNat], e1, e2, e3, rfl, by rw [Array.toList_push]; exact e4.append (.one ⟨permS_lt _ (by omega), _, congrArg (fun z => Value.str z _) (permS_tab k.toNat (by omega))⟩), by simp [e5]⟩
  · rintro m₁ news₁ h₅ tk₅ ⟨x₅, t₅, vs₅, ep₅, rs₅, e1, e2, e3, rfl, e4, e5⟩ F₅ N₅
    repeat' walk1
    exact h _ _ x₅ t₅ l2 rs₅ vs₅ ep₅ (fr_hide F₅) (N₅ _ (.tail _ (.head _))).1 (none_hide (N₅ _ (.head _)).2.2 (Nat.ne_of_gt l1)) (Nat.ne_of_gt l1) (N₅ _ (.head _)).1 e4 (by omega)
end
end Mine

end

open PySem PySem.W PyProof.Rows in
example : True := by
  w_top off
  trivial
open PySem PySem.W PyProof.Rows in
example {M : Model} {A : Around} {E : Value → Shared → Prop} {s : Shared} {Q : Unit → Shared → Prop} (h : Q () s) : wpAny M A (pure ()) Q E s := by
  first
    | (walk1; exact h)
    | exact wpAny_pure h
section
open PySem PySem.W PyProof.Rows PySem.Calls
set_option Elab.async false
set_option maxRecDepth 100000
set_option maxHeartbeats 4000000
set_option linter.unusedVariables false
set_option pp.deepTerms.threshold 5
set_option pp.maxSteps 2000
namespace Mine
-- HEAD
example : PySem.Challenge.rw_vk0007_01 = PySem.Challenge.rw_vk0007_01 ∧ hd.heap_39 = hd.heap_39 := by
  k_fill
  exact ⟨rfl, rfl⟩
local macro_rules | `(tactic| walk_at "getAttr ref") => `(tactic| k_dflt (refine items_at (by assumption) (by assumption) (SetIs.stays (by assumption) (Fr.keep (by assumption))) ?_))
local macro_rules | `(tactic| walk_at "getMethod ref") => `(tactic| k_dflt (refine' meth_at ?f ?g ?s ?k1 ?k2 ?k3 ?k4 ?_; (case f => assumption); (case g => assumption); (case s => exact SetIs.stays (by assumption) (Fr.keep (by assumption))); (case k1 => k_is); (case k2 => k_is); (case k3 => k_is); (case k4 => decide)))
local macro_rules | `(tactic| walk_at "eval Name") => `(tactic| k_dflt (first
  | (refine' nameX_L ?hf ?hv ?_; (case hf => assumption); (case hv => first | (with_unfolding_all rfl) | (with_unfolding_all assumption)))
  | (refine name_B (by assumption) (by assumption) (by k_is) (by first | exact boot_reversed | exact boot_list | exact boot_range | exact boot_tuple | rfl) (by decide) ?_)
  | (refine name_G (by assumption) (by assumption) (by k_is) ?_)))
-- BODY
theorem enterCells {w : World} {A : Around} {s : Shared} {K : Frag} {Q : Value → Shared → Prop} {E : Value → Shared → Prop}
    {name qual : Str} {params : Arguments} {body : List Stmt} {scope : Scope} {dV kV doc pm cdv ct oc : Value} {an od : Option Addr} {osl : Array (Option Value)} {f : Addr} {args : List Value} (binds : List (Str × Value))
    (X : K.In s.heap) (hlim : s.heap.NoLimit)
    (ho : K.lookup f = some ⟨oc, od, .func (fnOf name qual params body scope dV kV doc pm an cdv ct), osl⟩) (hcd : codeIn K cdv qual = true) (hroom : A.depth < recursionLimit)
    (hbind : BindsTo s (fnOf name qual params body scope dV kV doc pm an cdv ct) ⟨args, []⟩ binds)
    (hkind : (binds.all fun y => scope.names.lookup y.1 == some .local || scope.names.lookup y.1 == some .cell) = true)
    (hnd : ((cellsFrom 0 scope.names []).map (·.1)).Nodup)
    (h : ∀ L' h₁ tk cells, Fr s.heap L' h₁ (bindL (envOfC qual scope L' f cdv).kindOf binds fun _ => none) → News s.heap L' h₁ cells →
      CellsAre (bindC (envOfC qual scope L' f cdv).kindOf binds fun _ => none) (cellsFrom (L' + 1) scope.names []) cells → (∀ b o, s.heap.get? b = some o → b < L') →
      wpAny (model PySem.Challenge.rw_vk0007_01.row.prog w) (A.deeper (envOfC qual scope L' f cdv)) (execs body (envOfC qual scope L' f cdv))
        (fun fl s' => Q (match fl with | .ret v => v | _ => .none) s') (fun _ _ => False) { s with heap := h₁, toks := tk })
    (hco : scope.isCoroutine = false := by rfl) (hgen : scope.isGenerator = false := by rfl) (hk : scope.kind = .function := by rfl) :
    wpAny (model PySem.Challenge.rw_vk0007_01.row.prog w) A (call (.ref f) args) Q E s := by
  refine wpAny_call ?_
  refine codeAny_call_function (fd := fnOf name qual params body scope dV kV doc pm an cdv ct) (body := body) hroom (X _ _ ho) rfl hco hgen rfl (codeRec_of X hcd) (hbind _ _ _ _ ?_)
  refine wpAny_newFunctionEnv_cells hk (kindsX hkind _) fun env' he s' x => ?_
  subst he
  refine ⟨hlim.keeps x.toInCall.keep, codeAny_func ?_⟩
  obtain ⟨h₁, tk, rfl, _⟩ := x.done
  have hk₁ := x.toInCall.keep
  obtain ⟨cells, NC, Y⟩ := Cl.news (h₀ := s.heap) (Nat.le_refl _) fun n c hm => ⟨x.cell n c (lookup_of_mem_nodup (cellsFrom_names scope.names 0 (s.heap.objs.size + 1) [] [] rfl ▸ hnd) hm), x.above n c hm⟩
  exact wpAny_mono (h s.heap.objs.size h₁ tk cells ⟨x.toInCall.ns, fun b o e => hk₁ b o e, Nat.le_refl _⟩ NC Y (fun b o e => Heap.lt_size e)) (fun _ _ q => q) fun _ _ q => q.elim

end Mine

end

open PySem PySem.W PyProof.Rows in
example : True := by
  w_top off
  trivial
open PySem PySem.W PyProof.Rows in
example {M : Model} {A : Around} {E : Value → Shared → Prop} {s : Shared} {Q : Unit → Shared → Prop} (h : Q () s) : wpAny M A (pure ()) Q E s := by
  first
    | (walk1; exact h)
    | exact wpAny_pure h
section
open PySem PySem.W PyProof.Rows PySem.Calls PyProof.Rows.LCg
set_option Elab.async false
set_option maxRecDepth 100000
set_option maxHeartbeats 4000000
set_option linter.unusedVariables false
set_option pp.deepTerms.threshold 5
set_option pp.maxSteps 2000
namespace Mine
-- HEAD
example : PySem.Challenge.rw_vk0007_01 = PySem.Challenge.rw_vk0007_01 ∧ hd.heap_39 = hd.heap_39 := by
  k_fill
  exact ⟨rfl, rfl⟩
local macro_rules | `(tactic| walk_at "getAttr ref") => `(tactic| k_dflt (refine items_at (by assumption) (by assumption) (SetIs.stays (by assumption) (Fr.keep (by assumption))) ?_))
local macro_rules | `(tactic| walk_at "getMethod ref") => `(tactic| k_dflt (refine' meth_at ?f ?g ?s ?k1 ?k2 ?k3 ?k4 ?_; (case f => assumption); (case g => assumption); (case s => exact SetIs.stays (by assumption) (Fr.keep (by assumption))); (case k1 => k_is); (case k2 => k_is); (case k3 => k_is); (case k4 => decide)))
local macro_rules | `(tactic| walk_at "eval Name") => `(tactic| k_dflt (first
  | (refine' nameX_L ?hf ?hv ?_; (case hf => assumption); (case hv => first | (with_unfolding_all rfl) | (with_unfolding_all assumption)))
  | (refine name_B (by assumption) (by assumption) (by k_is) (by first | exact boot_reversed | exact boot_list | exact boot_range | exact boot_tuple | rfl) (by decide) ?_)
  | (refine name_G (by assumption) (by assumption) (by k_is) ?_)))
-- BODY
/-- what a comprehension's own frame needs to be made: no cells, or one -/
structure MkC (scope : Scope) (cl' : Addr → List (Str × Addr)) (cells : Addr → List (Addr × Obj)) (env : Env) (cl : List (Str × Addr)) : Prop where
  make : ∀ (M : Model) (A : Around) (s : Shared) (Q : Env → Shared → Prop) (E : Value → Shared → Prop),
    (∀ h' tk, h'.Ns s.heap.objs.size (fun _ => none) → Heap.StaysIn s.heap h' → (∀ p ∈ cells s.heap.objs.size, h'.get? p.1 = some p.2) →
      Q (newEnv scope s.heap.objs.size env.globals (cl' s.heap.objs.size) env.qual none .none (some env) builtinsNs) { s with heap := h', toks := tk }) →
    wpAny M A (newFunctionEnv scope env.globals cl [] env.qual none .none (some env)) Q E s
  lt : ∀ C, ∀ p ∈ cells C, C < p.1
  
theorem MkC.none {scope : Scope} {env : Env} {cl : List (Str × Addr)} (hcell : ∀ x ∈ scope.names, x.2 ≠ .cell) (hk : scope.kind = .function) : MkC scope (fun _ => cl) (fun _ => []) env cl where
  make := fun M A s Q E h => wpAny_newFunctionEnv hcell (fun x hx => nomatch hx) (fun h' hns hsb => h h' _ hns (fun b o e => hsb.extBut b o (Nat.ne_of_lt (Heap.lt_size e)) (Heap.get?_push_of_some _ e)) (fun p hp => nomatch hp)) hk
  lt := fun _ _ hp => nomatch hp

abbrev cellObj (v : Option Value) : Obj := { cls := .type "cell", data := .cell v }

/-- a turn of a comprehension has ended -/
def CTurn (h₀ : Heap) (C I : Addr) (oI : Obj) (D : Addr) (ys₀ : List Value) (L : Addr) (oL : Obj) (J : List Value → List (Addr × Obj) → Prop) (s : Shared) (ys : List Value) (s₄ : Shared) : Prop :=
  ∃ h' tk' m' news', s₄ = { s with heap := h', toks := tk' } ∧ Fr h₀ C h' m' ∧ News h₀ C h' ((I, oI) :: (D, lst ys₀) :: (L, oL) :: news') ∧ (∀ p ∈ news', p.1 ≠ I ∧ p.1 ≠ D ∧ p.1 ≠ L) ∧ J ys news'

section
variable {prog : Program} {w : World} {A : Around} {s : Shared} {h₀ : Heap} {env : Env} {E : Value → Shared → Prop}

/-- one turn of a comprehension's code, whatever the target -/
theorem codeAny_compLoop_go {R : Result → Shared → Prop} {elt target iter : PySem.Expr} {ifs : List PySem.Expr} {scope : Scope} {pos : Pos} {it acc : Value} {env : Env} (I : Nat → Shared → Prop)
    (turn : ∀ n s, I n s → wpAny (model prog w) A (pyNext it) (fun r s₁ => match r with
      | none => R (.ok .next) s₁
      | some v => wpAny (model prog w) A (letOwnedTupleGo target it v) (fun _ s₁ => wpAny (model prog w) A (assign target env v) (fun _ s₂ =>
          wpAny (model prog w) A (forIn ifs true fun c r => if r = true then do let ok ← isTrue c env (eval c env); pure (ForInStep.yield ok) else pure (ForInStep.yield r)) (fun ok s₃ =>
            if ok = true then wpAny (model prog w) A (eval elt env) (fun x s₄ =>
              wpAny (model prog w) A (call (.builtin "list.append") [acc, x]) (fun _ s₅ => ∃ m, m < n ∧ I m s₅) (fun _ _ => False) s₄) (fun _ _ => False) s₃
            else ∃ m, m < n ∧ I m s₃) (fun _ _ => False) s₂) (fun _ _ => False) s₁) (fun _ _ => False) s₁) (fun _ _ => False) s)
    (n : Nat) (h : I n s) :
    codeAny (model prog w) A (.compLoop (.ListComp elt [⟨target, iter, ifs, 0⟩] scope pos) 0 it acc env) R s := by
  refine codeAny_loop rfl I (fun n s hI => ?_) n h
  show wpAny _ A ((compTurn (.ListComp elt [⟨target, iter, ifs, 0⟩] scope pos) 0 it acc env).onRaise (fun x => do noteFrame x env; theTreesLotGoes x)) _ _ s
  refine wpAny_noted ?_
  rw [compTurn_list]
  refine wpAny_bind (wpAny_standAt (wpAny_bind (wpAny_mono (turn n s hI) (fun r s₁ h₁ => ?_) fun _ _ h' => h'.elim)))
  cases r with
  | none => exact wpAny_pure h₁
  | some v =>
    refine wpAny_bind (wpAny_mono h₁ (fun _ s₁ h₁ => ?_) fun _ _ h' => h'.elim)
    refine wpAny_bind (wpAny_mono h₁ (fun _ s₂ h₂ => wpAny_bind (wpAny_mono h₂ (fun ok s₃ h₃ => ?_) fun _ _ h' => h'.elim)) fun _ _ h' => h'.elim)
    cases ok with
    | false => exact wpAny_pure ⟨rfl, h₃⟩
    | true =>
      exact wpAny_bind (wpAny_bind (wpAny_mono h₃ (fun x s₄ h₄ => wpAny_bind (wpAny_mono h₄ (fun _ s₅ h₅ => wpAny_pure (wpAny_pure ⟨rfl, h₅⟩)) fun _ _ h' => h'.elim)) fun _ _ h' => h'.elim))

theorem compG {elt target iter : PySem.Expr} {ifs : List PySem.Expr} {scope : Scope} {cl : List (Str × Addr)} {cl' : Addr → List (Str × Addr)} {cells : Addr → List (Addr × Obj)} {pos : Pos} {I : Addr} {fp : List Addr} {n : Nat} {P : Nat → Value → Prop} {St : Nat → Heap → Prop} {m : Str → Option Value} {news : List (Addr × Obj)}
    {RR : Value → Addr → Result → Shared → Prop}
    (W : Walks prog w A I fp [I] n P St) (hn : n ≤ sizeLine) (MK : MkC scope cl' cells env cl)
    (hgo : ∀ i v (s' : Shared) (Q : Unit → Shared → Prop) (E : Value → Shared → Prop), St i s'.heap → Q () s' → wpAny (model prog w) A (letOwnedTupleGo target (.ref I) v) Q E s')
    (hsome : ∀ i h, St i h → ∃ o, h.get? I = some o)
    (J : Addr → Nat → List Value → List (Addr × Obj) → Prop)
    (hX : ∀ b ∈ fp, b ≠ I → ∃ ob, s.heap.get? b = some ob ∧ ∀ C i ys h news, Heap.StaysIn h₀ h → (∀ p ∈ news, h.get? p.1 = some p.2) → J C i ys news → h.get? b = some ob)
    (st0 : St 0 s.heap) (oI : Obj) (F : Fr h₀ env.locals s.heap m) (N : News h₀ env.locals s.heap ((I, oI) :: news)) (hI : ∀ p ∈ news, p.1 ≠ I) (hJ : ∀ C, s.heap.objs.size < C → J C 0 [] (cells C ++ news))
    (turn : ∀ C i v ys m₁ news₁ h₁ tk₁ oI D oL, i < n → P i v → J C i ys news₁ → ys.length ≤ i → NsObj oL m → Fr h₀ C h₁ m₁ → News h₀ C h₁ ((I, oI) :: (D, lst ys) :: (env.locals, oL) :: news₁) → (∀ p ∈ news₁, p.1 ≠ I ∧ p.1 ≠ D ∧ p.1 ≠ env.locals) → (I ≠ D ∧ I ≠ env.locals ∧ D ≠ env.locals) →
      wpAny (model prog w) A (assign target (compEnvC scope (cl' C) C env) v) (fun _ s₂ =>
        wpAny (model prog w) A (forIn ifs true fun c r => if r = true then do let ok ← isTrue c (compEnvC scope (cl' C) C env) (eval c (compEnvC scope (cl' C) C env)); pure (ForInStep.yield ok) else pure (ForInStep.yield r)) (fun ok s₃ =>
          if ok = true then wpAny (model prog w) A (eval elt (compEnvC scope (cl' C) C env)) (fun y s₄ => CTurn h₀ C I oI D ys env.locals oL (J C (i + 1)) s (ys ++ [y]) s₄) (fun _ _ => False) s₃
          else CTurn h₀ C I oI D ys env.locals oL (J C (i + 1)) s ys s₃) (fun _ _ => False) s₂) (fun _ _ => False) { s with heap := h₁, toks := tk₁ })
    (hRR : ∀ C D ys m' news₁ h₁ tk₁, J C n ys news₁ → Fr h₀ env.locals h₁ m → h₁.Ns C m' → h₀.get? C = none → C ≠ env.locals → D ≠ C → News h₀ env.locals h₁ ((D, lst ys) :: news₁) → (∀ p ∈ news₁, p.1 ≠ D ∧ p.1 ≠ C) → s.heap.get? D = none → RR (.ref D) C (.ok .next) { s with heap := h₁, toks := tk₁ }) :
    wpAny (model prog w) A (newList []) (fun acc s₃ => wpAny (model prog w) A (newFunctionEnv scope env.globals cl [] env.qual none .none (some env)) (fun cenv s₄ =>
      codeAny (model prog w) A (.compStart (.ListComp elt [⟨target, iter, ifs, 0⟩] scope pos) 0 (.ref I) acc { cenv with scope := relabel scope env }) (RR acc cenv.locals) s₄) E s₃) E s := by
  refine wpAny_newObj_type (MK.make _ _ _ _ _ fun h₁ tk₀ hns₁ k₁ hcs => ?_)
  dsimp only at hns₁ k₁ hcs ⊢
  generalize hH2 : s.heap.push { cls := .type "list", dict := none, data := .seq ([] : List Value).toArray } = H2 at hns₁ k₁ hcs ⊢
  have hC : H2.objs.size = s.heap.objs.size + 1 := by rw [← hH2, Heap.size_push]
  have hacc : h₁.get? s.heap.objs.size = some (lst []) := k₁ _ _ (hH2 ▸ Heap.get?_push_size _ rfl)
  have old : Heap.StaysIn s.heap h₁ := fun b o e => k₁ b o (hH2 ▸ Heap.get?_push_of_some _ e)
  have hDC : s.heap.objs.size ≠ H2.objs.size := by rw [hC]; exact Nat.ne_of_lt (Nat.lt_succ_self _)
  have fr0 : ∀ a, s.heap.objs.size ≤ a → h₀.get? a = none := fun a ha => none_of_ge F.keep ha
  have ltL : env.locals < s.heap.objs.size := F.ns.lt
  have ltI : I < s.heap.objs.size := Heap.lt_size (N _ (.head _)).1
  generalize hCn : H2.objs.size = C at *
  have hCs : s.heap.objs.size < C := by rw [hC]; exact Nat.lt_succ_self _
  generalize hDn : s.heap.objs.size = D at *
  have hD₀ : h₀.get? D = none := fr0 _ (Nat.le_refl _)
  have hC₀ : h₀.get? C = none := fr0 _ (Nat.le_of_lt hCs)
  have hDL : D ≠ env.locals := Nat.ne_of_gt ltL
  have hCL : C ≠ env.locals := Nat.ne_of_gt (Nat.lt_trans ltL hCs)
  have hID : I ≠ D := Nat.ne_of_lt ltI
  have hIC : I ≠ C := Nat.ne_of_lt (Nat.lt_trans ltI hCs)
  have hIL : I ≠ env.locals := (N _ (.head _)).2.1
  obtain ⟨oL, hoL, nsL⟩ := ns_obj (F.ns.keeps old)
  have abC : h₀.objs.size ≤ C := Nat.le_of_lt (Nat.lt_of_le_of_lt F.above (Nat.lt_trans ltL hCs))
  have step : ∀ s₃ : Shared, (∃ tk, s₃ = { s with heap := h₁, toks := tk }) →
      codeAny (model prog w) A (.compLoop (.ListComp elt [⟨target, iter, ifs, 0⟩] scope pos) 0 (.ref I) (.ref D) (compEnvC scope (cl' C) C env)) (RR (.ref D) C) s₃ := by
    rintro s₃ ⟨tk, rfl⟩
    have N1 : News h₀ C h₁ ((I, oI) :: (D, lst []) :: (env.locals, oL) :: (cells C ++ news)) := fun p hp => by
      have one : ∀ q ∈ (I, oI) :: news, h₁.get? q.1 = some q.2 ∧ q.1 ≠ C ∧ h₀.get? q.1 = none := fun q hq => ⟨old _ _ (N q hq).1, Nat.ne_of_lt (Nat.lt_trans (hDn ▸ Heap.lt_size (N q hq).1) hCs), (N q hq).2.2⟩
      rcases List.mem_cons.mp hp with rfl | hp
      · exact one _ (.head _)
      rcases List.mem_cons.mp hp with rfl | hp
      · exact ⟨hacc, hDC, hD₀⟩
      rcases List.mem_cons.mp hp with rfl | hp
      · refine ⟨hoL, Ne.symm hCL, ?_⟩
        cases q : h₀.get? env.locals with
        | none => rfl
        | some o => exact absurd (Heap.lt_size q) (Nat.not_lt.mpr F.above)
      rcases List.mem_append.mp hp with hp | hp
      · exact ⟨hcs p hp, Nat.ne_of_gt (MK.lt C p hp), fr0 _ (Nat.le_of_lt (Nat.lt_trans hCs (MK.lt C p hp)))⟩
      · exact one _ (.tail _ hp)
    have off1 : ∀ p ∈ cells C ++ news, p.1 ≠ I ∧ p.1 ≠ D ∧ p.1 ≠ env.locals := fun p hp => by
      rcases List.mem_append.mp hp with hp | hp
      · have := MK.lt C p hp
        exact ⟨Nat.ne_of_gt (Nat.lt_trans (Nat.lt_trans ltI hCs) this), Nat.ne_of_gt (Nat.lt_trans hCs this), Nat.ne_of_gt (Nat.lt_trans (Nat.lt_trans ltL hCs) this)⟩
      · exact ⟨hI p hp, Nat.ne_of_lt (hDn ▸ Heap.lt_size (N p (.tail _ hp)).1), (N p (.tail _ hp)).2.1⟩
    refine codeAny_compLoop_go
      (fun k s' => ∃ h' tk i ys m' news' oI, s' = { s with heap := h', toks := tk } ∧ i ≤ n ∧ k = n + 1 - i ∧ ys.length ≤ i ∧ St i h' ∧ Fr h₀ C h' m' ∧ News h₀ C h' ((I, oI) :: (D, lst ys) :: (env.locals, oL) :: news') ∧ (∀ p ∈ news', p.1 ≠ I ∧ p.1 ≠ D ∧ p.1 ≠ env.locals) ∧ J C i ys news') ?_ (n + 1)
      ⟨h₁, tk, 0, [], _, _, oI, rfl, Nat.zero_le _, rfl, Nat.le_refl _, ?_, ⟨hns₁, fun b o e => old b o (F.keep b o e), abC⟩, N1, off1, hJ C hCs⟩
    · rintro k s' ⟨h', tk', i, ys, m', news', oI', rfl, hi, rfl, hyl, hst', F', N', off', hJ'⟩
      have NI := N' _ (.head _)
      have nx : ∀ h₂ : Heap, (∀ b o, b ∉ [I] → h'.get? b = some o → h₂.get? b = some o) → Fr h₀ C h₂ m' ∧ News h₀ C h₂ ((D, lst ys) :: (env.locals, oL) :: news') := fun h₂ hk₂ => by
        refine ⟨fr_off F' (W := [I]) hk₂ (fun q => hIC (List.mem_singleton.mp q).symm) (fun a ha => by rw [List.mem_singleton.mp ha]; exact NI.2.2), fun p hp => ?_⟩
        have z := N' p (.tail _ hp)
        refine ⟨hk₂ _ _ (fun q => ?_) z.1, z.2⟩
        have q' := List.mem_singleton.mp q
        rcases List.mem_cons.mp hp with rfl | hp
        · exact hID q'.symm
        rcases List.mem_cons.mp hp with rfl | hp
        · exact hIL q'.symm
        · exact (off' p hp).1 q'
      by_cases hlt : i < n
      · refine W.item i _ _ _ hlt hst' fun v h₂ tk₂ hP hst₂ hk₂ => ?_
        obtain ⟨F₂, N₂⟩ := nx h₂ hk₂
        refine hgo (i + 1) v _ _ _ hst₂ ?_
        obtain ⟨oI₂, hoI⟩ := hsome _ _ hst₂
        have N₃ : News h₀ C h₂ ((I, oI₂) :: (D, lst ys) :: (env.locals, oL) :: news') := fun p hp => by
          rcases List.mem_cons.mp hp with rfl | hp
          · exact ⟨hoI, NI.2⟩
          · exact N₂ p hp
        have fin : ∀ ys' h₄ tk₄ m₄ news₄, Fr h₀ C h₄ m₄ → News h₀ C h₄ ((I, oI₂) :: (D, lst ys') :: (env.locals, oL) :: news₄) → (∀ p ∈ news₄, p.1 ≠ I ∧ p.1 ≠ D ∧ p.1 ≠ env.locals) → J C (i + 1) ys' news₄ → ys'.length ≤ i + 1 →
            ∃ k', k' < n + 1 - i ∧ ∃ h' tk j ys m' news' oI, ({ s with heap := h₄, toks := tk₄ } : Shared) = { s with heap := h', toks := tk } ∧ j ≤ n ∧ k' = n + 1 - j ∧ ys.length ≤ j ∧ St j h' ∧ Fr h₀ C h' m' ∧ News h₀ C h' ((I, oI) :: (D, lst ys) :: (env.locals, oL) :: news') ∧ (∀ p ∈ news', p.1 ≠ I ∧ p.1 ≠ D ∧ p.1 ≠ env.locals) ∧ J C j ys news' := fun ys' h₄ tk₄ m₄ news₄ F₄ N₄ off₄ hJ₄ hl₄ => by
          refine ⟨n + 1 - (i + 1), by omega, h₄, tk₄, i + 1, ys', m₄, news₄, oI₂, rfl, hlt, rfl, hl₄, ?_, F₄, N₄, off₄, hJ₄⟩
          refine W.frame _ _ _ hst₂ fun b hb o e => ?_
          by_cases hbI : b = I
          · subst hbI
            rw [hoI] at e; cases e; exact (N₄ _ (.head _)).1
          · obtain ⟨ob, _, hob⟩ := hX b hb hbI
            rw [hob C i ys h₂ news' F₂.keep (fun p hp => (N₂ p (.tail _ (.tail _ hp))).1) hJ'] at e; cases e
            exact hob C (i + 1) ys' h₄ news₄ F₄.keep (fun p hp => (N₄ p (.tail _ (.tail _ (.tail _ hp)))).1) hJ₄
        refine wpAny_mono (turn C i v ys m' news' h₂ tk₂ oI₂ D oL hlt hP hJ' hyl nsL F₂ N₃ off' ⟨hID, hIL, hDL⟩) (fun _ s₃ h₃ => wpAny_mono h₃ (fun ok s₄ h₄ => ?_) fun _ _ e => e.elim) fun _ _ e => e.elim
        cases ok with
        | false =>
          rw [if_neg Bool.false_ne_true] at h₄ ⊢
          obtain ⟨h₅, tk₅, m₅, news₅, rfl, F₅, N₅, off₅, hJ₅⟩ := h₄
          exact fin ys h₅ tk₅ m₅ news₅ F₅ N₅ off₅ hJ₅ (Nat.le_succ_of_le hyl)
        | true =>
          rw [if_pos rfl] at h₄ ⊢
          refine wpAny_mono h₄ (fun y s₅ h₅ => ?_) fun _ _ e => e.elim
          obtain ⟨h₅, tk₅, m₅, news₅, rfl, F₅, N₅, off₅, hJ₅⟩ := h₅
          have zD := (N₅ (D, lst ys) (.tail _ (.head _))).1
          refine append_at (hsz := by show ys.toArray.size ≤ sizeLine; rw [List.size_toArray]; omega) zD fun h₆ hs₆ hD₆ => ?_
          have k₆ := off_same hs₆
          have F₆ := fr_off1 F₅ N₅ (.tail _ (.head _)) k₆
          have N₆ := news_put (pre := [(I, oI₂)]) (post := (env.locals, oL) :: news₅) N₅ k₆ (hD₆.trans (congrArg some (lst_snoc ys y))) (fun p hp => by rw [List.mem_singleton.mp hp]; exact hID)
            (fun p hp => by
              rcases List.mem_cons.mp hp with rfl | hp
              · exact hDL.symm
              · exact (off₅ p hp).2.1)
          exact fin (ys ++ [y]) h₆ tk₅ m₅ news₅ F₆ N₆ off₅ hJ₅ (by rw [List.length_append, List.length_singleton]; omega)
      · have hin : i = n := by omega
        subst hin
        refine W.done _ _ _ hst' fun h₂ tk₂ hk₂ => ?_
        obtain ⟨F₂, N₂⟩ := nx h₂ hk₂
        have zL := N₂ _ (.tail _ (.head _))
        refine hRR C D ys m' news' h₂ tk₂ hJ' ⟨nsL.ns zL.1, F₂.keep, F.above⟩ F₂.ns hC₀ hCL hDC (fun p hp => ?_) (fun p hp => ⟨(off' p hp).2.1, (N₂ p (.tail _ (.tail _ hp))).2.1⟩) (none_of_ge (fun _ _ e => e) (Nat.le_of_eq hDn))
        rcases List.mem_cons.mp hp with rfl | hp
        · exact ⟨(N₂ _ (.head _)).1, hDL, hD₀⟩
        · have z := N₂ p (.tail _ (.tail _ hp))
          exact ⟨z.1, (off' p hp).2.2, z.2.2⟩
    · exact W.frame _ _ _ st0 fun b _ o e => old b o e
  have st1 : St 0 h₁ := W.frame _ _ _ st0 fun b _ o e => old b o e
  exact codeAny_compStart_list (step _ ⟨_, rfl⟩) (W.self 0 _ _ _ st1 (step _ ⟨_, rfl⟩))
end
end Mine

end

open PySem PySem.W PyProof.Rows in
example : True := by
  w_top off
  trivial
open PySem PySem.W PyProof.Rows in
example {M : Model} {A : Around} {E : Value → Shared → Prop} {s : Shared} {Q : Unit → Shared → Prop} (h : Q () s) : wpAny M A (pure ()) Q E s := by
  first
    | (walk1; exact h)
    | exact wpAny_pure h
section
open PySem PySem.W PyProof.Rows PySem.Calls PyProof.Rows.LCg
set_option Elab.async false
set_option maxRecDepth 100000
set_option maxHeartbeats 4000000
set_option linter.unusedVariables false
set_option pp.deepTerms.threshold 5
set_option pp.maxSteps 2000
namespace Mine
-- HEAD
example : PySem.Challenge.rw_vk0007_01 = PySem.Challenge.rw_vk0007_01 ∧ hd.heap_39 = hd.heap_39 := by
  k_fill
  exact ⟨rfl, rfl⟩
local macro_rules | `(tactic| walk_at "getAttr ref") => `(tactic| k_dflt (refine items_at (by assumption) (by assumption) (SetIs.stays (by assumption) (Fr.keep (by assumption))) ?_))
local macro_rules | `(tactic| walk_at "getMethod ref") => `(tactic| k_dflt (refine' meth_at ?f ?g ?s ?k1 ?k2 ?k3 ?k4 ?_; (case f => assumption); (case g => assumption); (case s => exact SetIs.stays (by assumption) (Fr.keep (by assumption))); (case k1 => k_is); (case k2 => k_is); (case k3 => k_is); (case k4 => decide)))
local macro_rules | `(tactic| walk_at "eval Name") => `(tactic| k_dflt (first
  | (refine' nameX_L ?hf ?hv ?_; (case hf => assumption); (case hv => first | (with_unfolding_all rfl) | (with_unfolding_all assumption)))
  | (refine name_B (by assumption) (by assumption) (by k_is) (by first | exact boot_reversed | exact boot_list | exact boot_range | exact boot_tuple | rfl) (by decide) ?_)
  | (refine name_G (by assumption) (by assumption) (by k_is) ?_)))
-- BODY
section
variable {prog : Program} {w : World} {A : Around} {s : Shared} {h₀ : Heap} {env : Env} {E : Value → Shared → Prop}
  {elt target iter : PySem.Expr} {ifs : List PySem.Expr} {scope : Scope} {cl : List (Str × Addr)} {cl' : Addr → List (Str × Addr)} {cells : Addr → List (Addr × Obj)} {pos : Pos} {m : Str → Option Value} {news : List (Addr × Obj)} {Q : Value → Shared → Prop}

theorem comp_list {ax : Addr} {oax : Obj} {items : Array Value} (hh : A.handled = none) (MK : MkC scope cl' cells env cl) (J : Addr → Nat → List Value → List (Addr × Obj) → Prop)
    (hl : s.heap.IsList ax items) (hax : s.heap.get? ax = some oax) (hsz : items.size ≤ 1000)
    (hX : ∀ C i ys h news, Heap.StaysIn h₀ h → (∀ p ∈ news, h.get? p.1 = some p.2) → J C i ys news → h.get? ax = some oax)
    (F : Fr h₀ env.locals s.heap m) (N : News h₀ env.locals s.heap news) (hJ : ∀ C, s.heap.objs.size < C → J C 0 [] (cells C ++ news))
    (turn : ∀ C i v ys m₁ news₁ h₁ tk₁ I oI D oL, items[i]? = some v → J C i ys news₁ → ys.length ≤ i → NsObj oL m → Fr h₀ C h₁ m₁ → News h₀ C h₁ ((I, oI) :: (D, lst ys) :: (env.locals, oL) :: news₁) → (∀ p ∈ news₁, p.1 ≠ I ∧ p.1 ≠ D ∧ p.1 ≠ env.locals) → (I ≠ D ∧ I ≠ env.locals ∧ D ≠ env.locals) →
      wpAny (model prog w) A (assign target (compEnvC scope (cl' C) C env) v) (fun _ s₂ =>
        wpAny (model prog w) A (forIn ifs true fun c r => if r = true then do let ok ← isTrue c (compEnvC scope (cl' C) C env) (eval c (compEnvC scope (cl' C) C env)); pure (ForInStep.yield ok) else pure (ForInStep.yield r)) (fun ok s₃ =>
          if ok = true then wpAny (model prog w) A (eval elt (compEnvC scope (cl' C) C env)) (fun y s₄ => CTurn h₀ C I oI D ys env.locals oL (J C (i + 1)) s (ys ++ [y]) s₄) (fun _ _ => False) s₃
          else CTurn h₀ C I oI D ys env.locals oL (J C (i + 1)) s ys s₃) (fun _ _ => False) s₂) (fun _ _ => False) { s with heap := h₁, toks := tk₁ })
    (done : ∀ C D ys news₁ h₁ tk₁, J C items.size ys news₁ → Fr h₀ env.locals h₁ m → News h₀ env.locals h₁ ((D, lst ys) :: news₁) → (∀ p ∈ news₁, p.1 ≠ D) → s.heap.get? D = none → Q (.ref D) { s with heap := h₁, toks := tk₁ }) :
    wpAny (model prog w) A (pyIter (.ref ax)) (fun it s₂ => wpAny (model prog w) A (newList []) (fun acc s₃ => wpAny (model prog w) A (newFunctionEnv scope env.globals cl [] env.qual none .none (some env)) (fun cenv s₄ =>
      codeAny (model prog w) A (.compStart (.ListComp elt [⟨target, iter, ifs, 0⟩] scope pos) 0 it acc { cenv with scope := relabel scope env }) (compPost (model prog w) A E none Q acc cenv.locals) s₄) E s₃) E s₂) E s := by
  refine wpAny_pyIter_list hl ?_
  have hlt : ax < s.heap.objs.size := Heap.lt_size hax
  refine compG (s := { s with heap := s.heap.push { cls := .type "list_iterator", data := .fields #[.ref ax, .int 0 0] } }) (Walks.list hh s.heap.objs.size ax (Nat.ne_of_lt hlt) items) (by rw [sizeLine_eq]; omega) MK (fun i v s' Q E st q => letGo_listiter st.1 q) (fun i h st => (by obtain ⟨o, e, _⟩ := st.1; exact ⟨o, e⟩))
    J (fun b hb hn => ?_) ⟨⟨_, Heap.get?_push_size _ rfl, rfl, rfl⟩, hl.push _⟩ _ (F.push _) (N.push F _) (fun p hp => Nat.ne_of_lt (Heap.lt_size (N p hp).1)) (fun C hC => hJ C (Nat.lt_trans (by show _ < (s.heap.push _).objs.size; rw [Heap.size_push]; exact Nat.lt_succ_self _) hC))
    (fun C i v ys m₁ news₁ h₁ tk₁ oI D oL hi hv a b c d e f g => wpAny_mono (turn C i v ys m₁ news₁ h₁ tk₁ _ oI D oL hv a b c d e f g) (fun _ _ q => wpAny_mono q (fun ok s₃ z => ?_) fun _ _ q => q) fun _ _ q => q) ?_
  · rcases List.mem_cons.mp hb with rfl | hb
    · exact absurd rfl hn
    · rw [List.mem_singleton.mp hb]; exact ⟨oax, Heap.get?_push_of_some _ hax, hX⟩
  · cases ok with
    | false => exact z
    | true => exact wpAny_mono z (fun _ _ z => z) fun _ _ z => z
  · intro C D ys m' news₁ h₁ tk₁ hJ₁ F₁ hn hC₀ hCL hDC N₁ off fD
    refine ⟨m', hn, fun h'' hs'' => done C D ys news₁ h'' tk₁ hJ₁ (F₁.change hs'' hCL hC₀) (fun p hp => ?_) (fun p hp => (off p hp).1) ?_⟩
    · refine ⟨hs''.extBut _ _ ?_ (N₁ p hp).1, (N₁ p hp).2⟩
      rcases List.mem_cons.mp hp with rfl | hp
      · exact hDC
      · exact (off p hp).2
    · exact none_of (fun b o e => Heap.get?_push_of_some _ e) fD

theorem comp_range {r : Addr} {a b : Int} {t₀ u₀ v₀ : Tok} {n : Nat} (hh : A.handled = none) (MK : MkC scope cl' cells env cl) (J : Addr → Nat → List Value → List (Addr × Obj) → Prop)
    (hr : IsRange s.heap r a b 1 t₀ u₀ v₀) (hsmall : Builtin.Range.small a b 1 = true) (hn : Builtin.Range.rangeSize a b 1 = (n : Int)) (hsz : n ≤ 1000)
    (F : Fr h₀ env.locals s.heap m) (N : News h₀ env.locals s.heap news) (hJ : ∀ C, s.heap.objs.size < C → J C 0 [] (cells C ++ news))
    (turn : ∀ C i t ys m₁ news₁ h₁ tk₁ I oI D oL, i < n → J C i ys news₁ → ys.length ≤ i → NsObj oL m → Fr h₀ C h₁ m₁ → News h₀ C h₁ ((I, oI) :: (D, lst ys) :: (env.locals, oL) :: news₁) → (∀ p ∈ news₁, p.1 ≠ I ∧ p.1 ≠ D ∧ p.1 ≠ env.locals) → (I ≠ D ∧ I ≠ env.locals ∧ D ≠ env.locals) →
      wpAny (model prog w) A (assign target (compEnvC scope (cl' C) C env) (.int (a + i) t)) (fun _ s₂ =>
        wpAny (model prog w) A (forIn ifs true fun c r => if r = true then do let ok ← isTrue c (compEnvC scope (cl' C) C env) (eval c (compEnvC scope (cl' C) C env)); pure (ForInStep.yield ok) else pure (ForInStep.yield r)) (fun ok s₃ =>
          if ok = true then wpAny (model prog w) A (eval elt (compEnvC scope (cl' C) C env)) (fun y s₄ => CTurn h₀ C I oI D ys env.locals oL (J C (i + 1)) s (ys ++ [y]) s₄) (fun _ _ => False) s₃
          else CTurn h₀ C I oI D ys env.locals oL (J C (i + 1)) s ys s₃) (fun _ _ => False) s₂) (fun _ _ => False) { s with heap := h₁, toks := tk₁ })
    (done : ∀ C D ys news₁ h₁ tk₁, J C n ys news₁ → Fr h₀ env.locals h₁ m → News h₀ env.locals h₁ ((D, lst ys) :: news₁) → (∀ p ∈ news₁, p.1 ≠ D) → s.heap.get? D = none → Q (.ref D) { s with heap := h₁, toks := tk₁ }) :
    wpAny (model prog w) A (pyIter (.ref r)) (fun it s₂ => wpAny (model prog w) A (newList []) (fun acc s₃ => wpAny (model prog w) A (newFunctionEnv scope env.globals cl [] env.qual none .none (some env)) (fun cenv s₄ =>
      codeAny (model prog w) A (.compStart (.ListComp elt [⟨target, iter, ifs, 0⟩] scope pos) 0 it acc { cenv with scope := relabel scope env }) (compPost (model prog w) A E none Q acc cenv.locals) s₄) E s₃) E s₂) E s := by
  refine wpAny_pyIter_range hr hsmall ?_
  refine compG (s := { s with heap := s.heap.push _ }) (Walks.range hh s.heap.objs.size a 1 n) (by rw [sizeLine_eq]; omega) MK (fun i v s' Q E st q => ?_) (fun i h st => ⟨_, st⟩)
    J (fun b hb hn => absurd (List.mem_singleton.mp hb) hn) (by show IsRangeIter _ _ _ _ _; rw [hn]; simpa using Heap.get?_push_size _ rfl) _ (F.push _) (N.push F _) (fun p hp => Nat.ne_of_lt (Heap.lt_size (N p hp).1)) (fun C hC => hJ C (Nat.lt_trans (by show _ < (s.heap.push _).objs.size; rw [Heap.size_push]; exact Nat.lt_succ_self _) hC))
    (fun C i v ys m₁ news₁ h₁ tk₁ oI D oL hi hv a b c d e f g => ?_) ?_
  · unfold letOwnedTupleGo
    cases target <;> first
      | exact wpAny_pure q
      | (cases v <;> first
          | exact wpAny_pure q
          | (refine wpAny_bind (wpAny_load st ?_)
             exact wpAny_pure q)
          | (refine wpAny_bind (wpAny_load st ?_)
             dsimp only
             rw [if_neg (by simp)]
             exact wpAny_pure q))
  · obtain ⟨t, rfl⟩ := hv
    have := turn C i t ys m₁ news₁ h₁ tk₁ _ oI D oL hi a b c d e f g
    rw [Int.mul_one]
    exact wpAny_mono this (fun _ _ q => wpAny_mono q (fun ok s₃ z => (by
      cases ok with
      | false => exact z
      | true => exact wpAny_mono z (fun _ _ z => z) fun _ _ z => z)) fun _ _ q => q) fun _ _ q => q
  · intro C D ys m' news₁ h₁ tk₁ hJ₁ F₁ hn hC₀ hCL hDC N₁ off fD
    refine ⟨m', hn, fun h'' hs'' => done C D ys news₁ h'' tk₁ hJ₁ (F₁.change hs'' hCL hC₀) (fun p hp => ?_) (fun p hp => (off p hp).1) ?_⟩
    · refine ⟨hs''.extBut _ _ ?_ (N₁ p hp).1, (N₁ p hp).2⟩
      rcases List.mem_cons.mp hp with rfl | hp
      · exact hDC
      · exact (off p hp).2
    · exact none_of (fun b o e => Heap.get?_push_of_some _ e) fD
end
end Mine

end

open PySem PySem.W PyProof.Rows in
example : True := by
  w_top off
  trivial
open PySem PySem.W PyProof.Rows in
example {M : Model} {A : Around} {E : Value → Shared → Prop} {s : Shared} {Q : Unit → Shared → Prop} (h : Q () s) : wpAny M A (pure ()) Q E s := by
  first
    | (walk1; exact h)
    | exact wpAny_pure h
section
open PySem PySem.W PyProof.Rows PySem.Calls PyProof.Rows.LCg
set_option Elab.async false
set_option maxRecDepth 100000
set_option maxHeartbeats 4000000
set_option linter.unusedVariables false
set_option pp.deepTerms.threshold 5
set_option pp.maxSteps 2000
namespace Mine
-- HEAD
example : PySem.Challenge.rw_vk0007_01 = PySem.Challenge.rw_vk0007_01 ∧ hd.heap_39 = hd.heap_39 := by
  k_fill
  exact ⟨rfl, rfl⟩
local macro_rules | `(tactic| walk_at "getAttr ref") => `(tactic| k_dflt (refine items_at (by assumption) (by assumption) (SetIs.stays (by assumption) (Fr.keep (by assumption))) ?_))
local macro_rules | `(tactic| walk_at "getMethod ref") => `(tactic| k_dflt (refine' meth_at ?f ?g ?s ?k1 ?k2 ?k3 ?k4 ?_; (case f => assumption); (case g => assumption); (case s => exact SetIs.stays (by assumption) (Fr.keep (by assumption))); (case k1 => k_is); (case k2 => k_is); (case k3 => k_is); (case k4 => decide)))
local macro_rules | `(tactic| walk_at "eval Name") => `(tactic| k_dflt (first
  | (refine' nameX_L ?hf ?hv ?_; (case hf => assumption); (case hv => first | (with_unfolding_all rfl) | (with_unfolding_all assumption)))
  | (refine name_B (by assumption) (by assumption) (by k_is) (by first | exact boot_reversed | exact boot_list | exact boot_range | exact boot_tuple | rfl) (by decide) ?_)
  | (refine name_G (by assumption) (by assumption) (by k_is) ?_)))
-- BODY
section
variable {w : World} {A : Around} {s : Shared} {mg mb : Str → Option Value} {h₀ : Heap} {Q : Value → Shared → Prop} {E : Value → Shared → Prop} {M : Model}
  {env : Env} {C c : Addr} {o : Obj} {m : Str → Option Value} {news : List (Addr × Obj)} {x : Str} {pos : Pos} {v : Value}

theorem nm_L (F : Fr h₀ C s.heap m) (hv : m x = some v) (h : Q v s) (hC : env.locals = C := by rfl)
    (hk : env.scope.kind = .function := by rfl) (hx : env.kindOf x = some .local := by rfl) (hd : (x == ("__debug__" : Str)) = false := by decide) :
    wpAny M A (eval (.Name x pos) env) Q E s := by
  subst hC
  exact wpAny_Name (wpAny_loadName_local hk hx F.ns hv h) hd
theorem nm_C (N : News h₀ C s.heap news) (hc : env.cells.lookup x = some c) (hm : (c, o) ∈ news) (hd : o.data = .cell (some v)) (h : Q v s)
    (hx : env.kindOf x = some .cell := by rfl) (hk : env.scope.kind = .function := by rfl) (hb : (x == ("__debug__" : Str)) = false := by decide) :
    wpAny M A (eval (.Name x pos) env) Q E s := wpAny_Name (wpAny_loadName_cell hk hx hc ⟨o, N.get hm, hd⟩ h) hb
theorem nm_F (N : News h₀ C s.heap news) (hc : env.cells.lookup x = some c) (hm : (c, o) ∈ news) (hd : o.data = .cell (some v)) (h : Q v s)
    (hx : env.kindOf x = some .free := by rfl) (hk : env.scope.kind = .function := by rfl) (hb : (x == ("__debug__" : Str)) = false := by decide) (hn : (x == ("__classdict__" : Str)) = false := by decide) :
    wpAny M A (eval (.Name x pos) env) Q E s := wpAny_Name (wpAny_loadName_free hk hx hc ⟨o, N.get hm, hd⟩ h hn) hb
theorem nm_G (F : Fr h₀ C s.heap m) (G : Gr w mg mb h₀) (e : nsIn (hd.heap_39 w.params) mainGlobals x = some (some v)) (h : Q v s)
    (hx : env.kindOf x = some .globalImplicit := by rfl) (hk : env.scope.kind = .function := by rfl) (hg : env.globals = mainGlobals := by rfl) (hd : (x == ("__debug__" : Str)) = false := by decide) :
    wpAny M A (eval (.Name x pos) env) Q E s := Name_function_global hk hx (loadGlobal_global (env := env) (by rw [hg]; exact G.T.g.keeps F.keep) (mg_of G.K G.T.g e) h) hd
theorem nm_B (F : Fr h₀ C s.heap m) (G : Gr w mg mb h₀) (e : nsIn (hd.heap_39 w.params) mainGlobals x = some none) (hv : bootBuiltins x = some v) (hn : x ≠ "__name__") (h : Q v s)
    (hx : env.kindOf x = some .globalImplicit := by rfl) (hk : env.scope.kind = .function := by rfl) (hg : env.globals = mainGlobals := by rfl) (hgb : env.builtins = builtinsNs := by rfl) (hd : (x == ("__debug__" : Str)) = false := by decide) :
    wpAny M A (eval (.Name x pos) env) Q E s :=
  Name_function_global hk hx (loadGlobal_builtin (env := env) (by rw [hg]; exact G.T.g.keeps F.keep) (mg_none_of G.K G.T.g e) (by rw [hgb]; exact G.T.b.keeps F.keep) ((G.T.builtins x hn).trans hv) h) hd

/-- a store into the frame's own local -/
theorem st_L {Q : Unit → Shared → Prop} (F : Fr h₀ C s.heap m) (N : News h₀ C s.heap news)
    (h : ∀ h', Fr h₀ C h' (fun y => if y = x then some v else m y) → News h₀ C h' news → Q () { s with heap := h', toks := s.toks + 1 })
    (hC : env.locals = C := by rfl) (hx : env.kindOf x = some .local := by rfl) (hk : env.scope.kind = .function := by rfl) : wpAny M A (storeName env x v) Q E s := by
  subst hC
  exact wpAny_storeName_local hx F.ns (fun h' hn hs => h h' (F.set hn hs) (N.set hs)) (by rw [hk]; rfl)

def notCell (o : Obj) : Bool := match o.data with | .cell _ => false | _ => true
/-- no cells among these objects -/
def NC (l : List (Addr × Obj)) : Prop := ∀ p ∈ l, notCell p.2 = true
theorem NC.nil : NC [] := fun _ h => nomatch h
theorem NC.cons {p : Addr × Obj} {l : List (Addr × Obj)} (h : notCell p.2 = true) (t : NC l) : NC (p :: l) := fun q hq => by
  rcases List.mem_cons.mp hq with rfl | hq
  · exact h
  · exact t q hq
theorem NC.append {k l : List (Addr × Obj)} (a : NC k) (b : NC l) : NC (k ++ l) := fun q hq => (List.mem_append.mp hq).elim (a q) (b q)
theorem notCell_of {o : Obj} {v : Option Value} (h : o.data = .cell v) : notCell o = false := by unfold notCell; rw [h]
/-- two places of the heap whose objects differ in kind are two -/
theorem ne_kind {h : Heap} {a b : Addr} {o o' : Obj} (e : h.get? a = some o) (e' : h.get? b = some o') (n : notCell o = true) (n' : notCell o' = false) : a ≠ b := by
  rintro rfl
  rw [e] at e'; cases e'; rw [n] at n'; cases n'

/-- a store into a cell; `pre` and `post` are the other cells, `rest` no cells -/
theorem st_C {Q : Unit → Shared → Prop} {v₀ : Option Value} {pre post rest : List (Addr × Obj)} (F : Fr h₀ C s.heap m) (N : News h₀ C s.heap (pre ++ (c, o) :: (post ++ rest)))
    (hc : env.cells.lookup x = some c) (hd : o.data = .cell v₀) (h1 : ∀ p ∈ pre, p.1 ≠ c) (h2 : ∀ p ∈ post, p.1 ≠ c) (hr : NC rest)
    (h : ∀ h' o', Fr h₀ C h' m → News h₀ C h' (pre ++ (c, o') :: (post ++ rest)) → o'.data = .cell (some v) → Off [c] s.heap h' → Q () { s with heap := h' })
    (hx : env.kindOf x = some .cell := by rfl) (hk : env.scope.kind = .function := by rfl) : wpAny M A (storeName env x v) Q E s := by
  have hm : (c, o) ∈ pre ++ (c, o) :: (post ++ rest) := List.mem_append_right _ (.head _)
  refine wpAny_storeName_cell hk hx hc ⟨o, N.get hm, hd⟩ fun h' hv hs => ?_
  obtain ⟨o', ho', hd'⟩ := hv
  have k := off_same hs
  refine h h' o' (fr_off1 F N hm k) (news_put N k ho' h1 fun p hp => ?_) hd' k
  rcases List.mem_append.mp hp with hp | hp
  · exact h2 p hp
  · exact ne_kind (N.get (List.mem_append_right _ (.tail _ (List.mem_append_right _ hp)))) (N.get hm) (hr p hp) (notCell_of hd)

theorem start_comp {prog : Program} {s : Shared} {elt target iter : PySem.Expr} {ifs : List PySem.Expr} {scope : Scope} {pos : Pos} (cl : List (Str × Addr)) (hs : ∀ x, foldedSetIterable iter env x = pure x)
    (hclos : closureFor scope env = pure cl) (hkind : scope.kind = .function) (hnames : (scope.names.all fun x => decide (scope.names.lookup x.1 = some x.2)) = true)
    (h : wpAny (model prog w) A (eval iter env) (fun x s₁ => wpAny (model prog w) A (pyIter x) (fun it s₂ => wpAny (model prog w) A (newList []) (fun acc s₃ => wpAny (model prog w) A (newFunctionEnv scope env.globals cl [] env.qual none .none (some env)) (fun cenv s₄ =>
      codeAny (model prog w) A (.compStart (.ListComp elt [⟨target, iter, ifs, 0⟩] scope pos) 0 it acc { cenv with scope := relabel scope env }) (compPost (model prog w) A E none Q acc cenv.locals) s₄) E s₃) E s₂) E s₁) E s) :
    wpAny (model prog w) A (eval (.ListComp elt [⟨target, iter, ifs, 0⟩] scope pos) env) Q E s := by
  rw [eval_ListComp]
  exact wpAny_comprehension_free (use := none) rfl hs hclos hkind (fun x hx hl => (of_decide_eq_true (List.all_eq_true.mp hnames x hx)).trans (congrArg some hl)) h
end
section
theorem pick_to (xs : Array Value) (k : Nat) (hk : k ≤ xs.size) : (slicePick xs none (some (k : Int)) none).toList = xs.toList.take k := by
  rw [kms_pick_eq]
  have e : kms_hi (some (k : Int)) xs.toList.length = k := by
    simp only [kms_hi, Array.length_toList]
    rw [if_neg (by omega)]; omega
  show (((xs.toList.drop 0).take (kms_hi (some (k : Int)) xs.toList.length - 0)).toArray).toList = _
  rw [e]; rfl
theorem pick_from (xs : Array Value) (k : Nat) (hk : k ≤ xs.size) : (slicePick xs (some (k : Int)) none none).toList = xs.toList.drop k := by
  rw [kms_pick_eq]
  have e : kms_lo (some (k : Int)) xs.toList.length = k := by
    simp only [kms_lo, Array.length_toList]
    rw [if_neg (by omega)]; omega
  show (((xs.toList.drop (kms_lo (some (k : Int)) xs.toList.length)).take (xs.toList.length - kms_lo (some (k : Int)) xs.toList.length)).toArray).toList = _
  rw [e]
  exact List.take_of_length_le (by rw [List.length_drop]; exact Nat.le_refl _)
end
section
variable {prog : Program} {w : World} {A : Around} {s : Shared} {h₀ : Heap} {Q : Value → Shared → Prop} {E : Value → Shared → Prop} {C : Addr} {m : Str → Option Value} {news : List (Addr × Obj)}
theorem cat_l {l b : Addr} {xs ys : Array Value} (F : Fr h₀ C s.heap m) (N : News h₀ C s.heap news) (hl : s.heap.IsList l xs) (hb : s.heap.IsList b ys) (hsz : xs.size + ys.size ≤ 1000)
    (h : ∀ D h', Fr h₀ C h' m → News h₀ C h' ((D, listOf (xs ++ ys) 0) :: news) → (∀ p ∈ news, p.1 < D) → s.heap.get? D = none → Q (.ref D) { s with heap := h' }) :
    wpAny (model prog w) A (binaryOp .Add (.ref l) (.ref b)) Q E s :=
  add_arrays F N hl hb (fun h' F' N' => h _ h' F' (by
    have e : (xs.toList ++ ys.toList).toArray = xs ++ ys := by rw [← Array.toList_append]
    rw [e] at N'; exact N') (fun p hp => Heap.lt_size (N p hp).1) (none_of_ge (fun _ _ e => e) (Nat.le_refl _))) (by rw [sizeLine_eq]; omega)

theorem cut_l {value slice : PySem.Expr} {l : Addr} {its : Array Value} {vl vu : Value} {lo hi : Option Int} {zs : List Value} (F : Fr h₀ C s.heap m) (N : News h₀ C s.heap news) (hl : s.heap.IsList l its) (pl : IsPart vl lo) (pu : IsPart vu hi) (e : (slicePick its lo hi none).toList = zs)
    (hz : its.size ≤ 1000)
    (h : ∀ D h', Fr h₀ C h' m → News h₀ C h' ((D, listOf zs.toArray 0) :: news) → (∀ p ∈ news, p.1 < D) → Q (.ref D) { s with heap := h' })
    (hs : subscripted slice false (.ref l) (.ref s.heap.objs.size) = operate [.ref s.heap.objs.size, .ref l] (getItem (.ref l) (.ref s.heap.objs.size)) := by with_unfolding_all rfl) (ht : ∀ r, letTemporaryGo value (.ref l) r = pure () := by intro _; with_unfolding_all rfl) :
    wpAny (model prog w) A (subscriptTail value slice (.ref l) (.ref s.heap.objs.size)) Q E { s with heap := s.heap.push { cls := .type "slice", data := .fields #[vl, vu, .none] } } :=
  kmk_slice_lit F N hl pl pu e h hs ht (by rw [sizeLine_eq]; omega)
end
end Mine

end

open PySem PySem.W PyProof.Rows in
example : True := by
  w_top off
  trivial
open PySem PySem.W PyProof.Rows in
example {M : Model} {A : Around} {E : Value → Shared → Prop} {s : Shared} {Q : Unit → Shared → Prop} (h : Q () s) : wpAny M A (pure ()) Q E s := by
  first
    | (walk1; exact h)
    | exact wpAny_pure h
section
open PySem PySem.W PyProof.Rows PySem.Calls PyProof.Rows.LCg
set_option Elab.async false
set_option maxRecDepth 100000
set_option maxHeartbeats 4000000
set_option linter.unusedVariables false
set_option pp.deepTerms.threshold 5
set_option pp.maxSteps 2000
namespace Mine
-- HEAD
example : PySem.Challenge.rw_vk0007_01 = PySem.Challenge.rw_vk0007_01 ∧ hd.heap_39 = hd.heap_39 := by
  k_fill
  exact ⟨rfl, rfl⟩
local macro_rules | `(tactic| walk_at "getAttr ref") => `(tactic| k_dflt (refine items_at (by assumption) (by assumption) (SetIs.stays (by assumption) (Fr.keep (by assumption))) ?_))
local macro_rules | `(tactic| walk_at "getMethod ref") => `(tactic| k_dflt (refine' meth_at ?f ?g ?s ?k1 ?k2 ?k3 ?k4 ?_; (case f => assumption); (case g => assumption); (case s => exact SetIs.stays (by assumption) (Fr.keep (by assumption))); (case k1 => k_is); (case k2 => k_is); (case k3 => k_is); (case k4 => decide)))
local macro_rules | `(tactic| walk_at "eval Name") => `(tactic| k_dflt (first
  | (refine' nameX_L ?hf ?hv ?_; (case hf => assumption); (case hv => first | (with_unfolding_all rfl) | (with_unfolding_all assumption)))
  | (refine name_B (by assumption) (by assumption) (by k_is) (by first | exact boot_reversed | exact boot_list | exact boot_range | exact boot_tuple | rfl) (by decide) ?_)
  | (refine name_G (by assumption) (by assumption) (by k_is) ?_)))
local macro_rules | `(tactic| walk_at "m_mem") => `(tactic| first | exact List.Mem.head _ | assumption | (apply List.Mem.tail; walk_at "m_mem"))
local macro_rules | `(tactic| walk_at "eval Name") => `(tactic| k_dflt (first
  | (refine' nm_L ?hf ?hv ?_; (case hf => assumption); (case hv => first | (with_unfolding_all rfl) | (with_unfolding_all assumption)))
  | (refine' nm_C ?hn ?hc ?hm ?hd ?_; (case hn => assumption); (case hc => rfl); (case hm => walk_at "m_mem"); (case hd => with_unfolding_all assumption))
  | (refine' nm_F ?hn ?hc ?hm ?hd ?_; (case hn => assumption); (case hc => rfl); (case hm => walk_at "m_mem"); (case hd => with_unfolding_all assumption))
  | (refine nm_B (by assumption) (by assumption) (by k_is) (by first | exact boot_reversed | exact boot_list | exact boot_range | exact boot_tuple | rfl) (by decide) ?_)
  | (refine nm_G (by assumption) (by assumption) (by k_is) ?_)))
-- BODY
section
variable {w : World} {A : Around} {s : Shared} {mg mb : Str → Option Value} {B : Heap} {Q : Value → Shared → Prop} {E : Value → Shared → Prop}
theorem sorted_spec {a : Addr} {oa : Obj} {vs : Array Value} {rs : List Nat} {tx : Bool}
    (G : Gr w mg mb B) (hB : Heap.StaysIn B s.heap) (R : Rm A 3) (hl : s.heap.IsList a vs) (ha : s.heap.get? a = some oa) (hT : Ths tx rs vs.toList) (hlen : rs.length < 200)
    (h : ∀ h' tk b ws ep, Heap.StaysIn s.heap h' → s.heap.get? b = none → h'.get? b = some (listOf ws ep) → Ths tx (rs.foldl ins []) ws.toList → Q (.ref b) { s with heap := h', toks := tk }) :
    wpAny (model PySem.Challenge.rw_vk0007_01.row.prog w) A (call (.ref 336) [.ref a]) Q E s := by
  refine enterCells [("things", .ref a)] (G.K.keeps hB) (G.T.nolimit.keeps hB) (by k_is) (by k_is) R.room (BindsTo.of_eq rfl) rfl (by decide) ?_
  intro L h₁ tk cells F N Y hlt
  obtain ⟨oc, rfl, hoc⟩ := CellsAre.one Y
  have G₀ := G.keeps hB
  have KX := G₀.K
  iterate 8 walk1
  refine wpAny_For ?_
  repeat' walk1
  rename Fr _ _ _ _ => F₁
  rename News _ _ _ _ => N₁
  rename_i l1
  refine iter_list R.hh (fun i m news => ∃ f ws ep oc v, m "found" = some (.ref f) ∧ news = [(f, listOf ws ep), (L + 1, oc)] ∧ L + 1 < f ∧ oc.data = .cell v ∧ Ths tx ((rs.take i).foldl ins []) ws.toList) (upL F₁ hl)
    (fun i h m news F' N' _ => F'.keep _ _ ha) F₁ N₁ ⟨_, _, _, _, _, rfl, rfl, by assumption, hoc, .nil⟩ ?_ ?_
  · rintro i v m₁ news₁ h₅ tk₅ I oI hi ⟨f, ws, ep, oc₁, v₁, e1, rfl, e3, e4, e5⟩ F₅ N₅ hI
    obtain ⟨r, hr1, hr2⟩ := hT.get (i := i) (v := v) (by rw [Array.getElem?_toList]; exact hi)
    walk1
    have hfI : f ≠ I := hI _ (.head _)
    have hcI : L + 1 ≠ I := hI _ (.tail _ (.head _))
    have e3' : f ≠ L + 1 := Nat.ne_of_gt e3
    refine st_C (pre := [(I, oI), (f, listOf ws ep)]) (post := []) (rest := []) F₅ N₅ rfl e4 (fun p hp => by
      rcases List.mem_cons.mp hp with rfl | hp
      · exact hcI.symm
      · rw [List.mem_singleton.mp hp]; exact e3') (fun _ hp => nomatch hp) NC.nil ?_
    intro h₆ oc₂ F₆ N₆ e6 _
    have hI' : ∀ p ∈ [(f, listOf ws ep), (L + 1, oc₂)], p.1 ≠ I := fun p hp => by
      rcases List.mem_cons.mp hp with rfl | hp
      · exact hfI
      · rw [List.mem_singleton.mp hp]; exact hcI
    clear F₅ N₅ e4
    have N₆' : News s.heap L h₆ [(I, oI), (f, listOf ws ep), (L + 1, oc₂)] := N₆
    clear N₆
    have hws := e5.len.trans (Array.length_toList (xs := ws))
    have hso : ((rs.take i).foldl ins []).Pairwise (· < ·) := insAll_sorted .nil
    have hl9 : ((rs.take i).foldl ins []).length ≤ 9 := sorted_len9 hso e5.lt
    generalize hds : (rs.take i).foldl ins [] = ds at *
    repeat' walk1
    refine notIn_oth F₆ G hB (R.deeper _) (Oth.list (listAt (N₆'.get (.tail _ (.head _)))) e5 (by omega)) hr2 ?_
    intro h₇ tk₇ k₇
    have F₇ := F₆.keeps k₇
    have N₇ := N₆'.keeps k₇
    clear F₆ N₆'
    cases hcr : ds.contains r with
    | true =>
      repeat' walk1
      refine TurnEnd.intro F₇ N₇ hI' ⟨f, ws, ep, oc₂, _, e1, rfl, e3, e6, ?_⟩
      rw [foldl_snoc ins rs [] hr1, hds, show ins ds r = ds by simp only [ins, hcr, if_true]]; exact e5
    | false =>
      repeat' walk1
      refine start_comp [("thing", L + 1)] (by intro _; rfl) rfl rfl (by decide) ?_
      repeat' walk1
      refine comp_list R.hh (MkC.none (by decide) rfl) (fun C i ys news => news = [(I, oI), (f, listOf ws ep), (L + 1, oc₂)] ∧ Ths tx ((ds.take i).filter (· < r)) ys) (listAt (N₇.get (.tail _ (.head _)))) (N₇.get (.tail _ (.head _))) (by omega)
        (fun C i ys h news _ hm e => hm _ (by rw [e.1]; exact .tail _ (.head _))) F₇ N₇ (fun C _ => ⟨rfl, .nil⟩) ?_ ?_
      · rintro C j v₁ ys m₈ news₈ h₈ tk₈ I₂ oI₂ D oL hv1 ⟨rfl, hys⟩ hyl hoL F₈ N₈ hoff hap
        obtain ⟨d, hd1, hd2⟩ := e5.get (i := j) (v := v₁) (by rw [Array.getElem?_toList]; exact hv1)
        have ef : (ds.take (j + 1)).filter (· < r) = (ds.take j).filter (· < r) ++ (if d < r then [d] else []) := by
          rw [List.take_add_one, hd1]; simp [List.filter_append, List.filter_cons]
        clear F₇ N₇
        refine wpAny_assign_Name ?_
        refine st_L F₈ N₈ ?_
        intro h₉ F₉ N₉
        clear F₈ N₈
        refine wpAny_tests_one ?_
        repeat' walk1
        refine th_lt hd2 hr2 ?_
        repeat' walk1
        · rename d < r => hdr
          rename Fr _ _ _ _ => F₉
          rename News _ _ _ _ => N₉
          exact ⟨_, _, _, _, rfl, F₉, N₉, hoff, rfl, by rw [ef, if_pos hdr]; exact hys.append (.one hd2)⟩
        · rename ¬ d < r => hdr
          rename Fr _ _ _ _ => F₉
          rename News _ _ _ _ => N₉
          exact ⟨_, _, _, _, rfl, F₉, N₉, hoff, rfl, by rw [ef, if_neg hdr, List.append_nil]; exact hys⟩
      · rintro C D ys news₈ h₈ tk₈ ⟨rfl, hys⟩ F₈ N₈ hoff fD
        clear F₇ N₇
        rw [List.take_of_length_le (by omega)] at hys
        have hD : h₈.IsList D ys.toArray := ⟨_, N₈.get (.head _), rfl, _, rfl⟩
        have hyk : ys.length = bis ds r := hys.len.symm.trans List.countP_eq_length_filter.symm
        have hyb : bis ds r ≤ ds.length := bis_le ds r
        repeat' walk1
        refine call_len_list hD (by rw [List.size_toArray]; omega) ?_
        rw [show ((ys.toArray.size : Nat) : Int) = ((bis ds r : Nat) : Int) by rw [List.size_toArray, hyk]]
        repeat' walk1
        rename Fr _ _ _ _ => F₉
        rename News _ _ _ _ => N₉
        refine cat_l F₉ N₉ (listAt (N₉.get (.tail _ (.head _)))) (listAt (N₉.get (.head _))) (by
          have := slicePick_size_le ws none (some ((bis ds r : Nat) : Int)) none
          simp only [List.size_toArray, List.length_cons, List.length_nil]; omega) ?_
        intro D₂ h₁₀ F₁₀ N₁₀ lD fD₂
        clear F₉ N₉
        repeat' walk1
        refine cut_l (s := { s with heap := h₁₀, toks := _ }) F₁₀ N₁₀ (listAt (N₁₀.get (.tail _ (.tail _ (.tail _ (.tail _ (.tail _ (.head _)))))))) (.int _ _) .none (pick_from ws (bis ds r) (by omega)) (by omega) ?_
        intro D₃ h₁₁ F₁₁ N₁₁ lD₃
        refine cat_l F₁₁ N₁₁ (listAt (N₁₁.get (.tail _ (.head _)))) (listAt (N₁₁.get (.head _))) (by
          have h1 := slicePick_size_le ws none (some ((bis ds r : Nat) : Int)) none
          simp only [Array.size_append, List.size_toArray, List.length_cons, List.length_nil, List.length_drop, Array.length_toList]; omega) ?_
        intro D₄ h₁₂ F₁₂ N₁₂ lD₄ fD₄
        clear F₁₁ N₁₁
        have hID : D₄ ≠ I := Nat.ne_of_gt (lD₄ (I, oI) (by walk_at "m_mem"))
        have hcD : L + 1 < D₄ := lD₄ (L + 1, oc₂) (by walk_at "m_mem")
        repeat' walk1
        rename Fr _ _ _ _ => F₁₃
        rename News _ _ _ _ => N₁₃
        refine TurnEnd.intro F₁₃ (news' := [(D₄, listOf (slicePick ws none (some ((bis ds r : Nat) : Int)) none ++ [v].toArray ++ (ws.toList.drop (bis ds r)).toArray) 0), (L + 1, oc₂)]) (fun p hp => N₁₃ p (by revert p; k_allIn)) (fun p hp => ?_) ⟨D₄, _, 0, oc₂, _, rfl, rfl, hcD, e6, ?_⟩
        · rcases List.mem_cons.mp hp with rfl | hp
          · exact hID
          · rw [List.mem_singleton.mp hp]; exact hcI
        · rw [foldl_snoc ins rs [] hr1, hds, show ins ds r = ds.take (bis ds r) ++ [r] ++ ds.drop (bis ds r) by simp only [ins, hcr]; simp]
          rw [Array.toList_append, Array.toList_append, pick_to ws (bis ds r) (by omega)]
          exact ((e5.take _).append (.one hr2)).append (e5.drop _)
  · rintro m₁ news₁ h₅ tk₅ ⟨f, ws, ep, oc₁, v₁, e1, rfl, e3, e4, e5⟩ F₅ N₅
    rw [List.take_of_length_le (by rw [hT.len, Array.length_toList]; exact Nat.le_refl _)] at e5
    repeat' walk1
    exact h _ _ f ws ep (fun b o e => F₅.keep b o e) (N₅ _ (.head _)).2.2 (N₅ _ (.head _)).1 e5
end
end Mine

end

open PySem PySem.W PyProof.Rows in
example : True := by
  w_top off
  trivial
open PySem PySem.W PyProof.Rows in
example {M : Model} {A : Around} {E : Value → Shared → Prop} {s : Shared} {Q : Unit → Shared → Prop} (h : Q () s) : wpAny M A (pure ()) Q E s := by
  first
    | (walk1; exact h)
    | exact wpAny_pure h
section
open PySem PySem.W PyProof.Rows PySem.Calls PyProof.Rows.LCg
set_option Elab.async false
set_option maxRecDepth 100000
set_option maxHeartbeats 4000000
set_option linter.unusedVariables false
set_option pp.deepTerms.threshold 5
set_option pp.maxSteps 2000
namespace Mine
-- HEAD
example : PySem.Challenge.rw_vk0007_01 = PySem.Challenge.rw_vk0007_01 ∧ hd.heap_39 = hd.heap_39 := by
  k_fill
  exact ⟨rfl, rfl⟩
local macro_rules | `(tactic| walk_at "getAttr ref") => `(tactic| k_dflt (refine items_at (by assumption) (by assumption) (SetIs.stays (by assumption) (Fr.keep (by assumption))) ?_))
local macro_rules | `(tactic| walk_at "getMethod ref") => `(tactic| k_dflt (refine' meth_at ?f ?g ?s ?k1 ?k2 ?k3 ?k4 ?_; (case f => assumption); (case g => assumption); (case s => exact SetIs.stays (by assumption) (Fr.keep (by assumption))); (case k1 => k_is); (case k2 => k_is); (case k3 => k_is); (case k4 => decide)))
local macro_rules | `(tactic| walk_at "eval Name") => `(tactic| k_dflt (first
  | (refine' nameX_L ?hf ?hv ?_; (case hf => assumption); (case hv => first | (with_unfolding_all rfl) | (with_unfolding_all assumption)))
  | (refine name_B (by assumption) (by assumption) (by k_is) (by first | exact boot_reversed | exact boot_list | exact boot_range | exact boot_tuple | rfl) (by decide) ?_)
  | (refine name_G (by assumption) (by assumption) (by k_is) ?_)))
local macro_rules | `(tactic| walk_at "m_mem") => `(tactic| first | exact List.Mem.head _ | assumption | (apply List.Mem.tail; walk_at "m_mem"))
local macro_rules | `(tactic| walk_at "eval Name") => `(tactic| k_dflt (first
  | (refine' nm_L ?hf ?hv ?_; (case hf => assumption); (case hv => first | (with_unfolding_all rfl) | (with_unfolding_all assumption)))
  | (refine' nm_C ?hn ?hc ?hm ?hd ?_; (case hn => assumption); (case hc => rfl); (case hm => walk_at "m_mem"); (case hd => with_unfolding_all assumption))
  | (refine' nm_F ?hn ?hc ?hm ?hd ?_; (case hn => assumption); (case hc => rfl); (case hm => walk_at "m_mem"); (case hd => with_unfolding_all assumption))
  | (refine nm_B (by assumption) (by assumption) (by k_is) (by first | exact boot_reversed | exact boot_list | exact boot_range | exact boot_tuple | rfl) (by decide) ?_)
  | (refine nm_G (by assumption) (by assumption) (by k_is) ?_)))
-- BODY
section
variable {w : World} {A : Around} {s : Shared} {mg mb : Str → Option Value} {B : Heap} {Q : Value → Shared → Prop} {E : Value → Shared → Prop} {prog : Program}
theorem all_range {es ds : List Nat} (h : ds.length = es.length) : ((List.range ds.length).all fun j => ds.getD j 0 == es.getD j 0) = (ds == es) := by
  rw [Bool.eq_iff_iff, List.all_eq_true, beq_iff_eq]
  constructor
  · intro q
    refine List.ext_getElem h fun i h1 h2 => ?_
    have := q i (List.mem_range.mpr h1)
    rw [beq_iff_eq] at this
    simpa [List.getD_eq_getElem?_getD, h1, h2] using this
  · rintro rfl i _; simp
theorem eqAt_items {tx : Bool} {ds es : List Nat} {vs ws : Array Value} (t1 : Ths tx ds vs.toList) (t2 : Ths tx es ws.toList) : ∀ j (h1 : j < vs.size) (h2 : j < ws.size), PySem.SeqAt.EqAt A s vs[j] ws[j] (ds.getD j 0 == es.getD j 0) := fun j h1 h2 => by
  obtain ⟨a, ha, ia⟩ := t1.get (i := j) (v := vs[j]) (by rw [Array.getElem?_toList]; exact Array.getElem?_eq_getElem h1)
  obtain ⟨b, hb, ib⟩ := t2.get (i := j) (v := ws[j]) (by rw [Array.getElem?_toList]; exact Array.getElem?_eq_getElem h2)
  rw [List.getD_eq_getElem?_getD, List.getD_eq_getElem?_getD, ha, hb]
  exact th_eqAt ia ib
theorem eq_things {tx : Bool} {ds es : List Nat} {vs ws : Array Value} {l b : Addr} (hl : s.heap.IsList l vs) (hb : s.heap.IsList b ws) (t1 : Ths tx ds vs.toList) (t2 : Ths tx es ws.toList) (hu : A.units < cLine)
    (h : Q (.bool (ds == es)) s) : wpAny (model prog w) A (compareOp .Eq (.ref l) (.ref b)) Q E s := by
  have e1 := t1.len.trans (Array.length_toList (xs := vs))
  have e2 := t2.len.trans (Array.length_toList (xs := ws))
  by_cases hs : vs.size = ws.size
  · refine PySem.SeqAt.eq_listAt hl hb hs hu (eqAt_items t1 t2) ?_
    rw [← e1, all_range (by omega)]; exact h
  · refine PySem.SeqAt.eq_list_lengthsAt hl hb (by rw [bne_iff_ne]; exact hs) hu ?_
    rw [show (ds == es) = false from Bool.eq_false_iff.mpr fun q => hs (by rw [beq_iff_eq] at q; rw [← e1, ← e2, q])] at h
    exact h
theorem ne_things {tx : Bool} {ds es : List Nat} {vs ws : Array Value} {l b : Addr} (hl : s.heap.IsList l vs) (hb : s.heap.IsList b ws) (t1 : Ths tx ds vs.toList) (t2 : Ths tx es ws.toList) (hu : A.units < cLine)
    (h : Q (.bool (!(ds == es))) s) : wpAny (model prog w) A (compareOp .NotEq (.ref l) (.ref b)) Q E s := by
  have e1 := t1.len.trans (Array.length_toList (xs := vs))
  have e2 := t2.len.trans (Array.length_toList (xs := ws))
  by_cases hs : vs.size = ws.size
  · refine PySem.SeqAt.RcNeAt.lists hl hb hs hu (eqAt_items t1 t2) prog w E Q ?_
    rw [← e1, all_range (by omega)]; exact h
  · refine PySem.SeqAt.RcNeAt.lists_lengths hl hb (by rw [bne_iff_ne]; exact hs) hu prog w E Q ?_
    rw [show (ds == es) = false from Bool.eq_false_iff.mpr fun q => hs (by rw [beq_iff_eq] at q; rw [← e1, ← e2, q])] at h
    exact h
/-- a list against the empty list -/
theorem eq_nil {vs : Array Value} {l b : Addr} (hl : s.heap.IsList l vs) (hb : s.heap.IsList b #[]) (hu : A.units < cLine)
    (h : Q (.bool (vs.size == 0)) s) : wpAny (model prog w) A (compareOp .Eq (.ref l) (.ref b)) Q E s := by
  by_cases hs : vs.size = 0
  · refine PySem.SeqAt.eq_listAt (e := fun _ => true) hl hb hs hu (fun j h1 _ => absurd h1 (by omega)) ?_
    rw [hs] at h ⊢; exact h
  · refine PySem.SeqAt.eq_list_lengthsAt hl hb (by rw [bne_iff_ne]; exact hs) hu ?_
    rw [show (vs.size == 0) = false from Bool.eq_false_iff.mpr fun q => hs (beq_iff_eq.mp q)] at h
    exact h
end
end Mine

end

open PySem PySem.W PyProof.Rows in
example : True := by
  w_top off
  trivial
open PySem PySem.W PyProof.Rows in
example {M : Model} {A : Around} {E : Value → Shared → Prop} {s : Shared} {Q : Unit → Shared → Prop} (h : Q () s) : wpAny M A (pure ()) Q E s := by
  first
    | (walk1; exact h)
    | exact wpAny_pure h
section
open PySem PySem.W PyProof.Rows PySem.Calls PyProof.Rows.LCg
set_option Elab.async false
set_option maxRecDepth 100000
set_option maxHeartbeats 4000000
set_option linter.unusedVariables false
set_option pp.deepTerms.threshold 5
set_option pp.maxSteps 2000
namespace Mine
-- HEAD
example : PySem.Challenge.rw_vk0007_01 = PySem.Challenge.rw_vk0007_01 ∧ hd.heap_39 = hd.heap_39 := by
  k_fill
  exact ⟨rfl, rfl⟩
local macro_rules | `(tactic| walk_at "getAttr ref") => `(tactic| k_dflt (refine items_at (by assumption) (by assumption) (SetIs.stays (by assumption) (Fr.keep (by assumption))) ?_))
local macro_rules | `(tactic| walk_at "getMethod ref") => `(tactic| k_dflt (refine' meth_at ?f ?g ?s ?k1 ?k2 ?k3 ?k4 ?_; (case f => assumption); (case g => assumption); (case s => exact SetIs.stays (by assumption) (Fr.keep (by assumption))); (case k1 => k_is); (case k2 => k_is); (case k3 => k_is); (case k4 => decide)))
local macro_rules | `(tactic| walk_at "eval Name") => `(tactic| k_dflt (first
  | (refine' nameX_L ?hf ?hv ?_; (case hf => assumption); (case hv => first | (with_unfolding_all rfl) | (with_unfolding_all assumption)))
  | (refine name_B (by assumption) (by assumption) (by k_is) (by first | exact boot_reversed | exact boot_list | exact boot_range | exact boot_tuple | rfl) (by decide) ?_)
  | (refine name_G (by assumption) (by assumption) (by k_is) ?_)))
local macro_rules | `(tactic| walk_at "m_mem") => `(tactic| first | exact List.Mem.head _ | assumption | (apply List.Mem.tail; walk_at "m_mem"))
local macro_rules | `(tactic| walk_at "eval Name") => `(tactic| k_dflt (first
  | (refine' nm_L ?hf ?hv ?_; (case hf => assumption); (case hv => first | (with_unfolding_all rfl) | (with_unfolding_all assumption)))
  | (refine' nm_C ?hn ?hc ?hm ?hd ?_; (case hn => assumption); (case hc => rfl); (case hm => walk_at "m_mem"); (case hd => with_unfolding_all assumption))
  | (refine' nm_F ?hn ?hc ?hm ?hd ?_; (case hn => assumption); (case hc => rfl); (case hm => walk_at "m_mem"); (case hd => with_unfolding_all assumption))
  | (refine nm_B (by assumption) (by assumption) (by k_is) (by first | exact boot_reversed | exact boot_list | exact boot_range | exact boot_tuple | rfl) (by decide) ?_)
  | (refine nm_G (by assumption) (by assumption) (by k_is) ?_)))
-- BODY
section
variable {prog : Program} {w : World} {A : Around} {s : Shared} {Q : Value → Shared → Prop} {E : Value → Shared → Prop}
open PySem (sizeLine_eq)
/-- list(x), told how x is asked for its iterator and for its length hint -/
theorem list_via {v : Addr} {ty : Value} {W : List Addr} {n : Nat} {P : Nat → Value → Prop}
    (hty : ∀ (s₁ : Shared) (B : Around) (Q : Value → Shared → Prop) (E : Value → Shared → Prop), Heap.StaysIn s.heap s₁.heap → Q ty s₁ → wpAny (model prog w) B (typeOf (.ref v)) Q E s₁) (hnl : (ty == .type "list") = false) (hnt : (ty == .type "tuple") = false)
    (hv : ∃ o, s.heap.get? v = some o) (hn : n ≤ 1000)
    (hiter : ∀ (s₁ : Shared) (Q : Value → Shared → Prop) (E : Value → Shared → Prop), s₁.gens = s.gens → s₁.drawn = s.drawn → s₁.os = s.os → Heap.StaysIn s.heap s₁.heap →
      (∀ h' tk I fp St, Walks prog w A.in1.in1 I fp [I] n P St → St 0 h' → Heap.StaysIn s₁.heap h' → (∀ b ∈ fp, (∃ o, s.heap.get? b = some o) ∨ s₁.heap.get? b = none) → (s.heap.get? I = none ∨ I ∈ W) → Q (.ref I) { s₁ with heap := h', toks := tk }) →
      wpAny (model prog w) A.in1.in1 (pyIter (.ref v)) Q E s₁)
    (hhint : ∀ (s₁ : Shared) (Q : Bool → Shared → Prop) (E : Value → Shared → Prop), s₁.gens = s.gens → s₁.drawn = s.drawn → s₁.os = s.os → Heap.StaysIn s.heap s₁.heap → (∀ b h' tk, Heap.StaysIn s₁.heap h' → Q b { s₁ with heap := h', toks := tk }) →
      wpAny (model prog w) A.in1.in1 (Builtin.List.listLengthHint (.ref v)) Q E s₁)
    (h : ∀ h' tk D acc c, Off W s.heap h' → h'.get? D = some (listOf acc c) → s.heap.get? D = none → ItemsOf P acc n → Q (.ref D) { s with heap := h', toks := tk }) :
    wpAny (model prog w) A (call (.type "list") [.ref v]) Q E s := by
  refine callType_codes (Q₁ := fun obj s₁ => obj = .ref s.heap.objs.size ∧ s₁ = { s with heap := s.heap.push { cls := .type "list", data := .seq #[] } }) F.called_list (F.typeCall_list_1 _) F.entry_list_init
    (code_list_new _ ⟨rfl, rfl⟩) fun obj s₁ h₁ => ?_
  obtain ⟨rfl, rfl⟩ := h₁
  have hS : (s.heap.push { cls := .type "list", data := .seq #[] }).get? s.heap.objs.size = some { cls := .type "list", data := .seq #[] } := Heap.get?_push_size _ rfl
  have fS : s.heap.get? s.heap.objs.size = none := none_of_ge (fun _ _ e => e) (Nat.le_refl _)
  have stS : Heap.StaysIn s.heap (s.heap.push { cls := .type "list", data := .seq #[] }) := fun b o e => Heap.get?_push_of_some _ e
  generalize s.heap.push { cls := .type "list", data := .seq #[] } = H at hS stS ⊢
  have hsz : ∀ b o, s.heap.get? b = some o → b ≠ s.heap.objs.size := fun b o e => Nat.ne_of_lt (Heap.lt_size e)
  generalize s.heap.objs.size = S at hS fS hsz ⊢
  refine ⟨⟨_, hS, rfl⟩, F.args_list_init_2 _ _, ?_⟩
  show wpAny _ _ (do let old ← Builtin.List.listItems (.ref S); Builtin.List.listUpdate (.ref S) (fun _ => #[]); letGo old.toList.reverse; Builtin.List.listExtendWith (.ref S) (.ref v) .none) _ _ _
  refine wpAny_bind ?_
  unfold Builtin.List.listItems
  refine wpAny_bind (wpAny_seqItems hS rfl (wpAny_pure ?_))
  show wpAny _ _ (updateSeq S (fun _ => #[]) >>= fun _ => letGo (#[] : Array Value).toList.reverse >>= fun _ => Builtin.List.listExtendWith (.ref S) (.ref v) .none) _ _ _
  refine wpAny_bind (wpAny_updateSeq hS rfl ?_)
  have hS₂ := Heap.get?_update_self (Obj.mapSeq (fun _ => (#[] : Array Value))) hS rfl
  have st₂ : Heap.StaysIn s.heap (H.update S (Obj.mapSeq (fun _ => (#[] : Array Value)))) := fun b o e => (Heap.get?_update_other _ _ (Ne.symm (hsz b o e))).trans (stS b o e)
  generalize H.update S (Obj.mapSeq (fun _ => (#[] : Array Value))) = H₂ at hS₂ st₂ ⊢
  refine wpAny_bind (wpAny_letGo ?_)
  unfold Builtin.List.listExtendWith
  refine wpAny_bind (hty _ _ _ _ st₂ ?_)
  have h1 : Builtin.List.listSameRef (.ref S) (.ref v) = false := by
    obtain ⟨o, e⟩ := hv
    simp [Builtin.List.listSameRef, Ne.symm (hsz v o e)]
  rw [h1, hnl, hnt]
  simp only [Bool.or_false, Bool.false_eq_true, if_false]
  refine wpAny_bind (hiter _ _ _ rfl rfl rfl st₂ fun H₃ tk₃ I fp St WK st0 st₃ hfp hI => ?_)
  have hSf : S ∉ fp := fun hm => by
    rcases hfp S hm with ⟨o, e⟩ | e
    · rw [fS] at e; cases e
    · rw [hS₂] at e; cases e
  have hSI : S ≠ I := fun e => hSf (e ▸ WK.sub I (List.mem_singleton_self I))
  refine wpAny_bind (wpAny_holding (hhint _ _ _ rfl rfl rfl (fun b o e => st₃ b o (st₂ b o e)) fun rm H₄ tk₄ st₄ => ?_))
  have hS₄ := st₄ _ _ (st₃ _ _ hS₂)
  have st0' : St 0 H₄ := WK.frame _ _ _ st0 fun b _ o e => st₄ b o e
  have stA : Heap.StaysIn s.heap H₄ := fun b o e => st₄ _ _ (st₃ _ _ (st₂ _ _ e))
  have key : ∀ (h : Heap) (c₁ tk : Nat), St 0 h → Heap.StaysIn s.heap h → h.get? S = some { cls := .type "list", data := .seq #[] c₁ } →
      codeAny (model prog w) A.in1 (.builtin "list.extend.loop" ⟨[.ref S, .ref I, .none], []⟩) (wants (fun r s₂ => r = .none ∧ Q (.ref S) s₂) E) { s with heap := h, toks := tk } := by
    intro h₅ c₁ tk hit hk hS₁
    refine codeAny_extend_loopS (WK.toS) (by rw [sizeLine_eq]; omega) S hSf .none n 0 _ #[] c₁ rfl (Nat.zero_le _) hit hS₁ (ItemsOf.nil _) fun s' acc' c' hm hS' hacc => ?_
    rw [Moved.eq_with hm]
    refine ⟨rfl, h s'.heap s'.toks S acc' c' (fun b o hb e => hm.heap b o (fun hmem => ?_) (hk b o e)) hS' fS hacc⟩
    rcases List.mem_cons.mp hmem with e' | hmem
    · exact hsz b o e e'
    · rw [List.mem_singleton.mp hmem] at hb e
      rcases hI with q | q
      · rw [q] at e; cases e
      · exact hb q
  refine wpAny_ite_split (fun _ => ?_) (fun _ => wpAny_pure ⟨plainId_quiet F.plain_extend_loop _, key _ _ _ st0' stA hS₄⟩)
  refine wpAny_bind (wpAny_rule ?_)
  refine wpAny_bind ?_
  show wpAny _ _ (updateSeq S (·.push .none) >>= fun _ => updateSeq S (·.pop)) _ _ _
  refine wpAny_bind (wpAny_updateSeq hS₄ rfl ?_)
  have hS₅ := Heap.get?_update_self (Obj.mapSeq (·.push Value.none)) hS₄ rfl
  refine wpAny_updateSeq (hz := by seq_fits) hS₅ rfl ?_
  have hS₆ := Heap.get?_update_self (Obj.mapSeq (·.pop)) hS₅ rfl
  refine wpAny_pure ⟨plainId_quiet F.plain_extend_loop _, key _ _ _ (WK.frame _ _ _ st0' fun b hb o e => ?_) (fun b o e => ?_) hS₆⟩
  · exact (Heap.get?_update_other _ _ (fun q : S = b => hSf (by rw [q]; exact hb))).trans ((Heap.get?_update_other _ _ (fun q : S = b => hSf (by rw [q]; exact hb))).trans e)
  · exact (Heap.get?_update_other _ _ (Ne.symm (hsz b o e))).trans ((Heap.get?_update_other _ _ (Ne.symm (hsz b o e))).trans (stA b o e))
end
section
variable {w : World} {A : Around} {s : Shared} {mg mb : Str → Option Value} {B : Heap} {Q : Value → Shared → Prop} {E : Value → Shared → Prop} {h₀ : Heap} {L : Addr} {m : Str → Option Value} {x l : Addr} {vs : Array Value}
theorem hint_set {Q : Bool → Shared → Prop} (F : Fr h₀ L s.heap m) (G : Gr w mg mb B) (hB : Heap.StaysIn B h₀) (R : Rm A 2) (S : SetIs s.heap x l) (hl : s.heap.IsList l vs) (hlen : vs.size < 1000)
    (h : ∀ b h' tk, Heap.StaysIn s.heap h' → Q b { s with heap := h', toks := tk }) :
    wpAny (model PySem.Challenge.rw_vk0007_01.row.prog w) A (Builtin.List.listLengthHint (.ref x)) Q E s := by
  have hs : findIn (hd.heap_39 w.params) (.ref 306) "__len__" = some (some (.ref 44)) := by k_is
  obtain ⟨dx, hsh, tk, n, h1, h2⟩ := id S
  have I : InstAt s.heap x (instObj 306 dx) 306 (some (itemsDict hsh tk l n)) := ⟨h1, rfl, rfl, h2⟩
  have X := (G.keeps (up F hB)).K
  unfold Builtin.List.listLengthHint
  refine wpAny_bind (m := specialOf (.ref x) (Str.ofString "__len__")) (wpAny_bind (I.type.here ((looks_findIn X hs).here ?_)))
  dsimp only
  refine wpAny_ite_split (fun hab => absurd hab (by decide)) (fun _ => ?_)
  refine wpAny_ite_split (fun _ => ?_) (fun hab => absurd rfl hab)
  refine wpAny_bind (wpAny_rule ?_)
  refine wpAny_bind (wpAny_attempt (len_set F G hB R S hl hlen fun h' tk t k => ?_))
  have htl : Builtin.List.listTooLong (((vs.size : Nat) : Int).toNat) = false := by simp [Builtin.List.listTooLong, PySem.sizeLine_eq]; omega
  refine wpAny_bind (m := asInt? _) (wpAny_pure ?_)
  exact wpAny_ite_split (fun hab => absurd hab (by rw [htl]; decide)) (fun _ => wpAny_pure (h _ _ _ k))

theorem ItemsOf.eq {items acc : Array Value} (h : ItemsOf (fun i v => items[i]? = some v) acc items.size) : acc = items := by
  refine Array.ext_getElem? fun i => ?_
  by_cases hi : i < acc.size
  · rw [Array.getElem?_eq_getElem hi, h.2 i acc[i] (Array.getElem?_eq_getElem hi)]
  · rw [Array.getElem?_eq_none (by omega), Array.getElem?_eq_none (by have := h.1; omega)]
theorem ItemsOf.rev {items acc : Array Value} (h : ItemsOf (fun i v => items[items.size - 1 - i]? = some v) acc items.size) : acc.toList = items.toList.reverse := by
  refine List.ext_getElem? fun i => ?_
  rw [Array.getElem?_toList]
  by_cases hi : i < acc.size
  · have hi' : i < items.toList.length := by have := h.1; rw [Array.length_toList]; omega
    rw [List.getElem?_reverse hi', Array.getElem?_toList, Array.length_toList, h.2 i acc[i] (Array.getElem?_eq_getElem hi), Array.getElem?_eq_getElem hi]
  · rw [Array.getElem?_eq_none (by omega), List.getElem?_eq_none (by have := h.1; rw [List.length_reverse, Array.length_toList]; omega)]

theorem list_set (F : Fr h₀ L s.heap m) (G : Gr w mg mb B) (hB : Heap.StaysIn B h₀) (R : Rm A 4) (S : SetIs s.heap x l) (hl : s.heap.IsList l vs) (hlen : vs.size < 1000)
    (h : ∀ h' tk D c, Heap.StaysIn s.heap h' → h'.get? D = some (listOf vs c) → s.heap.get? D = none → Q (.ref D) { s with heap := h', toks := tk }) :
    wpAny (model PySem.Challenge.rw_vk0007_01.row.prog w) A (call (.type "list") [.ref x]) Q E s := by
  obtain ⟨dx, hsh, tk, n, h1, h2⟩ := id S
  obtain ⟨ol, hol⟩ : ∃ o, s.heap.get? l = some o := by obtain ⟨o, e, _⟩ := hl; exact ⟨o, e⟩
  have I : InstAt s.heap x (instObj 306 dx) 306 (some (itemsDict hsh tk l n)) := ⟨h1, rfl, rfl, h2⟩
  refine list_via (ty := .ref 306) (W := []) (n := vs.size) (P := fun i v => vs[i]? = some v) (fun s₁ B Q E k q => I.type _ _ _ _ k q) rfl rfl ⟨_, h1⟩ (by omega) (fun s₁ Q E _ _ _ k q => ?_) (fun s₁ Q E _ _ _ k q => ?_) (fun h' tk D acc c k e f i => ?_)
  · refine pyIter_set (F.keeps k) G hB (R.in1.in1.less (by omega)) (S.stays k) (upS k hl) fun h' tk I' k' e f => ?_
    have hlI : l ≠ I' := fun e' => by rw [← e', k _ _ hol] at f; cases f
    refine q h' tk I' [I', l] _ (Walks.list (A := A.in1.in1) R.hh I' l hlI vs) ⟨⟨_, e, rfl, rfl⟩, upS k' (upS k hl)⟩ k' (fun b hb => ?_) (.inl (none_of k f))
    rcases List.mem_cons.mp hb with rfl | hb
    · exact .inr f
    · rw [List.mem_singleton.mp hb]; exact .inl ⟨_, hol⟩
  · exact hint_set (F.keeps k) G hB R.in1.in1 (S.stays k) (upS k hl) hlen q
  · rw [ItemsOf.eq i] at e
    exact h h' tk D c k.nil e f

theorem list_rev {v : Addr} (hh : A.handled = none) (hv : s.heap.get? v = some (revObj l ((vs.size : Int) - 1))) (hl : s.heap.IsList l vs) (hlen : vs.size < 1000) (hvl : v ≠ l)
    (h : ∀ h' tk D ws c, Off [v] s.heap h' → h'.get? D = some (listOf ws c) → ws.toList = vs.toList.reverse → s.heap.get? D = none → Q (.ref D) { s with heap := h', toks := tk }) :
    wpAny (model PySem.Challenge.rw_vk0007_01.row.prog w) A (call (.type "list") [.ref v]) Q E s := by
  obtain ⟨ol, hol⟩ : ∃ o, s.heap.get? l = some o := by obtain ⟨o, e, _⟩ := hl; exact ⟨o, e⟩
  have hT : ∀ s₁ : Shared, Heap.StaysIn s.heap s₁.heap → s₁.TypeIs (.ref v) "list_reverseiterator" := fun s₁ k => ⟨_, k _ _ hv, rfl⟩
  have hr : s.heap.IsRevIter v l ((vs.size : Int) - 1) := ⟨_, hv, rfl, rfl⟩
  refine list_via (ty := .type "list_reverseiterator") (W := [v]) (n := vs.size) (P := fun i w => vs[vs.size - 1 - i]? = some w) (fun s₁ B Q E k q => wpAny_typeOf (hT s₁ k) q) (by decide) (by decide) ⟨_, hv⟩ (by omega) (fun s₁ Q E _ _ _ k q => ?_) (fun s₁ Q E _ _ _ k q => ?_) (fun h' tk D acc c k e f i => h h' tk D acc c k e (ItemsOf.rev i) f)
  · refine wpAny_pyIter_revIter (hr.at fun o e => k _ _ e) (q s₁.heap s₁.toks v [v, l] _ (Walks.listRev (A := A.in1.in1) hh v l hvl.symm vs) ⟨Nat.zero_le _, ?_, upS k hl⟩ (fun _ _ e => e) (fun b hb => ?_) (.inr (List.mem_singleton_self v)))
    · rw [show (vs.size : Int) - 1 - ((0 : Nat) : Int) = (vs.size : Int) - 1 by omega]; exact hr.at fun o e => k _ _ e
    · rcases List.mem_cons.mp hb with rfl | hb
      · exact .inl ⟨_, hv⟩
      · rw [List.mem_singleton.mp hb]; exact .inl ⟨_, hol⟩
  · unfold Builtin.List.listLengthHint
    refine wpAny_bind (wpAny_specialOf (name := Str.ofString "__len__") (r := none) (hT s₁ k) (by rw [typeLookup_type, builtinLookup_eq_fast]; kernel_rfl) ?_)
    dsimp only
    refine wpAny_ite_split (fun hab => absurd hab (by decide)) (fun _ => ?_)
    refine wpAny_ite_split (fun hab => absurd hab (by decide)) (fun _ => ?_)
    refine wpAny_bind (wpAny_specialOf (name := Str.ofString "__length_hint__") (r := some (.builtin "list_reverseiterator.__length_hint__")) (hT s₁ k) (by rw [typeLookup_type, builtinLookup_eq_fast]; kernel_rfl) ?_)
    generalize hid : ("list_reverseiterator.__length_hint__" : String) = id0
    wp_delta
    rw [show splitId id0 = some ("list_reverseiterator", "__length_hint__") from by subst hid; decide +kernel]
    subst hid
    refine wpAny_bind (wpAny_isInstance (T := "list_reverseiterator") (b := true) (hT s₁ k) (by rw [isSubtype_type]; kernel_rfl) ?_)
    refine wpAny_ite_split (fun hab => absurd hab (by decide)) (fun _ => ?_)
    refine wpAny_ite_split (fun _ => ?_) (fun hab => absurd (by decide +kernel) hab)
    refine wpAny_ite_split (fun hab => absurd hab (by decide +kernel)) (fun _ => wpAny_pure ?_)
    exact q false s₁.heap s₁.toks (fun _ _ e => e)
end
end Mine

end

open PySem PySem.W PyProof.Rows in
example : True := by
  w_top off
  trivial
open PySem PySem.W PyProof.Rows in
example {M : Model} {A : Around} {E : Value → Shared → Prop} {s : Shared} {Q : Unit → Shared → Prop} (h : Q () s) : wpAny M A (pure ()) Q E s := by
  first
    | (walk1; exact h)
    | exact wpAny_pure h
section
open PySem PySem.W PyProof.Rows PySem.Calls PyProof.Rows.LCg
set_option Elab.async false
set_option maxRecDepth 100000
set_option maxHeartbeats 4000000
set_option linter.unusedVariables false
set_option pp.deepTerms.threshold 5
set_option pp.maxSteps 2000
namespace Mine
-- HEAD
example : PySem.Challenge.rw_vk0007_01 = PySem.Challenge.rw_vk0007_01 ∧ hd.heap_39 = hd.heap_39 := by
  k_fill
  exact ⟨rfl, rfl⟩
local macro_rules | `(tactic| walk_at "getAttr ref") => `(tactic| k_dflt (refine items_at (by assumption) (by assumption) (SetIs.stays (by assumption) (Fr.keep (by assumption))) ?_))
local macro_rules | `(tactic| walk_at "getMethod ref") => `(tactic| k_dflt (refine' meth_at ?f ?g ?s ?k1 ?k2 ?k3 ?k4 ?_; (case f => assumption); (case g => assumption); (case s => exact SetIs.stays (by assumption) (Fr.keep (by assumption))); (case k1 => k_is); (case k2 => k_is); (case k3 => k_is); (case k4 => decide)))
local macro_rules | `(tactic| walk_at "eval Name") => `(tactic| k_dflt (first
  | (refine' nameX_L ?hf ?hv ?_; (case hf => assumption); (case hv => first | (with_unfolding_all rfl) | (with_unfolding_all assumption)))
  | (refine name_B (by assumption) (by assumption) (by k_is) (by first | exact boot_reversed | exact boot_list | exact boot_range | exact boot_tuple | rfl) (by decide) ?_)
  | (refine name_G (by assumption) (by assumption) (by k_is) ?_)))
local macro_rules | `(tactic| walk_at "m_mem") => `(tactic| first | exact List.Mem.head _ | assumption | (apply List.Mem.tail; walk_at "m_mem"))
local macro_rules | `(tactic| walk_at "eval Name") => `(tactic| k_dflt (first
  | (refine' nm_L ?hf ?hv ?_; (case hf => assumption); (case hv => first | (with_unfolding_all rfl) | (with_unfolding_all assumption)))
  | (refine' nm_C ?hn ?hc ?hm ?hd ?_; (case hn => assumption); (case hc => rfl); (case hm => walk_at "m_mem"); (case hd => with_unfolding_all assumption))
  | (refine' nm_F ?hn ?hc ?hm ?hd ?_; (case hn => assumption); (case hc => rfl); (case hm => walk_at "m_mem"); (case hd => with_unfolding_all assumption))
  | (refine nm_B (by assumption) (by assumption) (by k_is) (by first | exact boot_reversed | exact boot_list | exact boot_range | exact boot_tuple | rfl) (by decide) ?_)
  | (refine nm_G (by assumption) (by assumption) (by k_is) ?_)))
-- BODY
section
variable {w : World} {A : Around} {s : Shared} {mg mb : Str → Option Value} {B : Heap} {Q : Value → Shared → Prop} {E : Value → Shared → Prop}
theorem isinst_set {h₀ : Heap} {L : Addr} {m : Str → Option Value} {x l : Addr} (F : Fr h₀ L s.heap m) (G : Gr w mg mb B) (hB : Heap.StaysIn B h₀) (S : SetIs s.heap x l) (h : Q (.bool true) s) :
    wpAny (model PySem.Challenge.rw_vk0007_01.row.prog w) A (call (.builtin "isinstance") [.ref x, .ref 306]) Q E s := by
  obtain ⟨dx, hsh, tk, n, h1, h2⟩ := id S
  have I : InstAt s.heap x (instObj 306 dx) 306 (some (itemsDict hsh tk l n)) := ⟨h1, rfl, rfl, h2⟩
  exact isi_call (t := .ref 306) (G.keeps (up F hB)).K (fun M => I.type) (by k_is) (by intro e; cases e) h
theorem isset_spec {x l b : Addr} {vs ws : Array Value} {ds es : List Nat} {tx : Bool}
    (G : Gr w mg mb B) (hB : Heap.StaysIn B s.heap) (R : Rm A 6) (S : SetIs s.heap x l) (hl : s.heap.IsList l vs) (hT : Ths tx ds vs.toList) (hlen : ds.length < 900)
    (hb : s.heap.IsList b ws) (hT' : Ths tx es ws.toList) (hlen' : es.length < 900)
    (h : ∀ h' tk, Heap.StaysIn s.heap h' → Q (.bool (ds == es)) { s with heap := h', toks := tk }) :
    wpAny (model PySem.Challenge.rw_vk0007_01.row.prog w) A (call (.ref 350) [.ref x, .ref b]) Q E s := by
  refine enter0 [("one", .ref x), ("due", .ref b)] (G.K.keeps hB) (G.T.nolimit.keeps hB) (by k_is) (by k_is) R.room (BindsTo.of_eq rfl) rfl ?_ (by decide)
  intro L h₁ F N
  have G₀ := G.keeps hB
  have KX := G₀.K
  repeat' walk1
  refine isinst_set F G hB (S.stays F.keep) ?_
  repeat' walk1
  have e1 := hT.len.trans (Array.length_toList (xs := vs))
  have e2 := hT'.len.trans (Array.length_toList (xs := ws))
  refine list_set F G hB ((R.deeper _).less (by omega)) (S.stays F.keep) (upL F hl) (by omega) ?_
  intro h₂ tk₂ D c k₂ eD fD
  have F₂ := F.keeps k₂
  have N₂ := N.keeps k₂
  clear F N
  repeat' walk1
  refine eq_things (listAt eD) (upL F₂ hb) hT hT' (R.deeper _).units ?_
  cases hq : (ds == es) with
  | false =>
    repeat' walk1
    rw [hq] at h
    exact h _ _ F₂.keep
  | true =>
    repeat' walk1
    refine len_set F₂ G hB ((R.deeper _).less (by omega)) (S.stays F₂.keep) (upL F₂ hl) (by omega) ?_
    intro h₃ tk₃ t₃ k₃
    have F₃ := F₂.keeps k₃
    have N₃ := N₂.keeps k₃
    clear F₂ N₂
    repeat' walk1
    have e3 : ((vs.size : Int) == (ws.size : Int)) = true := by
      rw [beq_iff_eq] at hq ⊢
      rw [← e1, ← e2, hq]
    rw [e3]
    rw [hq] at h
    exact h _ _ F₃.keep
end
end Mine

end

open PySem PySem.W PyProof.Rows in
example : True := by
  w_top off
  trivial
open PySem PySem.W PyProof.Rows in
example {M : Model} {A : Around} {E : Value → Shared → Prop} {s : Shared} {Q : Unit → Shared → Prop} (h : Q () s) : wpAny M A (pure ()) Q E s := by
  first
    | (walk1; exact h)
    | exact wpAny_pure h
section
open PySem PySem.W PyProof.Rows PySem.Calls PyProof.Rows.LCg
set_option Elab.async false
set_option maxRecDepth 100000
set_option maxHeartbeats 4000000
set_option linter.unusedVariables false
set_option pp.deepTerms.threshold 5
set_option pp.maxSteps 2000
namespace Mine
-- HEAD
example : PySem.Challenge.rw_vk0007_01 = PySem.Challenge.rw_vk0007_01 ∧ hd.heap_39 = hd.heap_39 := by
  k_fill
  exact ⟨rfl, rfl⟩
local macro_rules | `(tactic| walk_at "getAttr ref") => `(tactic| k_dflt (refine items_at (by assumption) (by assumption) (SetIs.stays (by assumption) (Fr.keep (by assumption))) ?_))
local macro_rules | `(tactic| walk_at "getMethod ref") => `(tactic| k_dflt (refine' meth_at ?f ?g ?s ?k1 ?k2 ?k3 ?k4 ?_; (case f => assumption); (case g => assumption); (case s => exact SetIs.stays (by assumption) (Fr.keep (by assumption))); (case k1 => k_is); (case k2 => k_is); (case k3 => k_is); (case k4 => decide)))
local macro_rules | `(tactic| walk_at "eval Name") => `(tactic| k_dflt (first
  | (refine' nameX_L ?hf ?hv ?_; (case hf => assumption); (case hv => first | (with_unfolding_all rfl) | (with_unfolding_all assumption)))
  | (refine name_B (by assumption) (by assumption) (by k_is) (by first | exact boot_reversed | exact boot_list | exact boot_range | exact boot_tuple | rfl) (by decide) ?_)
  | (refine name_G (by assumption) (by assumption) (by k_is) ?_)))
local macro_rules | `(tactic| walk_at "m_mem") => `(tactic| first | exact List.Mem.head _ | assumption | (apply List.Mem.tail; walk_at "m_mem"))
local macro_rules | `(tactic| walk_at "eval Name") => `(tactic| k_dflt (first
  | (refine' nm_L ?hf ?hv ?_; (case hf => assumption); (case hv => first | (with_unfolding_all rfl) | (with_unfolding_all assumption)))
  | (refine' nm_C ?hn ?hc ?hm ?hd ?_; (case hn => assumption); (case hc => rfl); (case hm => walk_at "m_mem"); (case hd => with_unfolding_all assumption))
  | (refine' nm_F ?hn ?hc ?hm ?hd ?_; (case hn => assumption); (case hc => rfl); (case hm => walk_at "m_mem"); (case hd => with_unfolding_all assumption))
  | (refine nm_B (by assumption) (by assumption) (by k_is) (by first | exact boot_reversed | exact boot_list | exact boot_range | exact boot_tuple | rfl) (by decide) ?_)
  | (refine nm_G (by assumption) (by assumption) (by k_is) ?_)))
-- BODY
/-- the addresses that stand in h -/
def olds (h : Heap) : List Addr := (List.range h.objs.size).filter fun a => (h.get? a).isSome
theorem mem_olds {h : Heap} {a : Addr} : a ∈ olds h ↔ ∃ o, h.get? a = some o := by
  unfold olds
  rw [List.mem_filter, List.mem_range, Option.isSome_iff_exists]
  exact ⟨fun q => q.2, fun ⟨o, e⟩ => ⟨Heap.lt_size e, o, e⟩⟩
/-- what stands in h' and not in h -/
abbrev newer (h h' : Heap) : Heap := hideAll h' (olds h)
theorem newer_get {h h' : Heap} {a : Addr} {o : Obj} (f : h.get? a = none) (e : h'.get? a = some o) : (newer h h').get? a = some o := hideAll_get _ e fun q => by
  obtain ⟨o', e'⟩ := mem_olds.mp q
  rw [f] at e'; cases e'
theorem newer_list {h h' : Heap} {a : Addr} {vs : Array Value} {n : Nat} (f : h.get? a = none) (e : h'.get? a = some (listOf vs n)) : (newer h h').IsList a vs := ⟨_, newer_get f e, rfl, n, rfl⟩
theorem newer_stays {h h' h'' : Heap} {W : List Addr} (hW : ∀ a ∈ W, ∃ o, h.get? a = some o) (k : Off W h' h'') : Heap.StaysIn (newer h h') (hideAll h'' W) := fun b o e => by
  have e' := of_hideAll _ e
  by_cases hb : b ∈ W
  · rw [hideAll_none _ (mem_olds.mpr (hW b hb))] at e; cases e
  · exact hideAll_get _ (k b o hb e') hb
/-- what is hidden stays hidden -/
theorem hide_stays {h h' : Heap} {W : List Addr} (k : Off W h h') : Heap.StaysIn (hideAll h W) (hideAll h' W) := fun b o e => by
  by_cases hb : b ∈ W
  · rw [hideAll_none _ hb] at e; cases e
  · exact hideAll_get _ (k b o hb (of_hideAll _ e)) hb
theorem hide_under {h : Heap} {W : List Addr} : Heap.StaysIn (hideAll h W) h := fun _ _ e => of_hideAll _ e
section
variable {w : World} {A : Around} {s : Shared} {mg mb : Str → Option Value} {B : Heap} {Q : Value → Shared → Prop} {E : Value → Shared → Prop}
theorem other_spec {b : Addr} {x : Int} {t : Tok} {ep : Nat} {tx : Bool}
    (G : Gr w mg mb B) (hB : Heap.StaysIn B s.heap) (R : Rm A 8) (hb : s.heap.get? b = some (listOf #[.int x t] ep)) (hbB : B.get? b = none)
    (h : ∀ h' tk x' t' T a rs ws ep' ov, Off [b] s.heap h' → h'.get? b = some (listOf #[.int x' t'] ep) → h'.get? T = some (tupOf [.ref a, ov]) → s.heap.get? T = none → h'.get? a = some (listOf ws ep') → s.heap.get? a = none → Ths tx rs ws.toList → rs.length < 10 → Oth tx (newer s.heap h') rs ov →
      Q (.ref T) { s with heap := h', toks := tk }) :
    wpAny (model PySem.Challenge.rw_vk0007_01.row.prog w) A (call (.ref 343) [.ref b, .bool tx]) Q E s := by
  refine enter1 [("bag", .ref b), ("is_text", .bool tx)] (G.K.keeps hB) (G.T.nolimit.keeps hB) (by k_is) (by k_is) R.room (BindsTo.of_eq rfl) rfl hb ?_ (by decide)
  intro L h₁ F N
  have hB₀ : Heap.StaysIn B (hideAll s.heap [b]) := stays_hide hB (by intro a ha; rw [List.mem_singleton.mp ha]; exact hbB)
  have G₀ := G.keeps hB₀
  have KX := G₀.K
  repeat' walk1
  refine things_spec G (up F hB₀) ((R.deeper _).less (by omega)) (N _ (.head _)).1 hbB (by decide) (by decide) ?_
  intro h₂ tk₂ x₂ t₂ a rs ws ep₂ k₂ eb fa hab ea hT hrl
  have F₂ := fr_off1 F N (.head _) k₂
  have N₂ : News (hideAll s.heap [b]) L h₂ [(a, listOf ws ep₂), (b, listOf #[.int x₂ t₂] ep)] := fun p hp => by
    rcases List.mem_cons.mp hp with rfl | hp
    · refine ⟨ea, fun q => ?_, none_of F.keep fa⟩
      obtain ⟨oL, es, ep, hL, _⟩ := F.ns
      change a = L at q
      rw [q, hL] at fa; cases fa
    · rw [List.mem_singleton.mp hp]
      exact ⟨eb, (N _ (.head _)).2⟩
  clear F N
  repeat' walk1
  rename Fr _ _ _ _ => F₃
  rename News _ _ _ _ => N₃
  refine make_new G (up F₃ hB₀) ((R.deeper _).less (by omega)) (listAt (N₃.get (.head _))) hT (by omega) ?_
  intro h₄ tk₄ x₄ dx l Y
  obtain ⟨hsh, tkd, nd, vs, epl, hTl, N₄, d1, d2, d3, d4⟩ := Y.news F₃ N₃
  have F₄ := F₃.keeps Y.keep
  clear F₃ N₃
  repeat' walk1
  refine kde_tupleOf F₄ N₄ (listAt (N₄.get (.tail _ (.tail _ (.tail _ (.head _)))))) (by have := hT.len.trans (Array.length_toList (xs := ws)); omega) rfl ?_
  intro T₁ h₅ F₅ N₅ l5
  clear F₄ N₄
  have bT₁ : b ≠ T₁ := Nat.ne_of_lt (l5 (b, _) (by walk_at "m_mem"))
  repeat' walk1
  rename Fr _ _ _ _ => F₆
  rename News _ _ _ _ => N₆
  rename_i l6 h₆ hl6
  have hb4 := d4 (b, listOf #[.int x₂ t₂] ep) (by walk_at "m_mem")
  refine draw_spec G (up F₆ hB₀) ((R.deeper _).less (by omega)) (N₆ (b, listOf #[.int x₂ t₂] ep) (by walk_at "m_mem")).1 hbB (by decide) (by decide) ?_
  intro h₇ tk₇ t₇ t₇' k₇ e₇
  have F₇ := fr_off1 F₆ N₆ (l := b) (by walk_at "m_mem") k₇
  have N₇ := news_put (pre := [_, _, _, _, _, _]) (post := []) N₆ k₇ e₇ (by
    simp only [List.forall_mem_cons]
    exact ⟨Nat.ne_of_gt hl6.2.2.2.2.2, bT₁.symm, hb4.1.symm, hb4.2.1.symm, hb4.2.2.symm, hab, fun _ h => nomatch h⟩) (fun _ h => nomatch h)
  clear F₆ N₆
  have h0 := Int.emod_nonneg x₂ (b := 3) (by decide)
  have h3 := Int.emod_lt_of_pos x₂ (b := 3) (by decide)
  have fH : ∀ {p : Addr × Obj}, p ∈ [(T₁, (⟨.type "tuple", none, .seq ws.toList.toArray 0, #[]⟩ : Obj)), (l, listOf vs epl), (x₄, instObj 306 dx), (dx, itemsDict hsh tkd l nd), (a, listOf ws ep₂)] → s.heap.get? p.1 = none ∧ h₇.get? p.1 = some p.2 := fun {p} hp => by
    have z := N₇ p (List.mem_append_left _ (List.Mem.tail _ hp))
    refine ⟨none_hide z.2.2 ?_, z.1⟩
    clear z
    revert p
    simp only [List.forall_mem_cons]
    exact ⟨bT₁.symm, hb4.1.symm, hb4.2.1.symm, hb4.2.2.symm, hab, fun _ h => nomatch h⟩
  generalize x₂ % 3 = k at *
  refine item_l (listAt (N₇.get (.head _))) h0 (by omega) (v := (#[.ref x₄, .ref a, .ref T₁] : Array Value).getD k.toNat .none) (by
    have : k.toNat < 3 := by omega
    rw [Array.getD_eq_getD_getElem?]
    generalize k.toNat = j at this
    match j, this with
    | 0, _ => rfl
    | 1, _ => rfl
    | 2, _ => rfl) ?_
  generalize hov : (#[.ref x₄, .ref a, .ref T₁] : Array Value).getD k.toNat .none = ov
  have hO : ∀ h' : Heap, (∀ p ∈ [(T₁, (⟨.type "tuple", none, .seq ws.toList.toArray 0, #[]⟩ : Obj)), (l, listOf vs epl), (x₄, instObj 306 dx), (dx, itemsDict hsh tkd l nd), (a, listOf ws ep₂)], h'.get? p.1 = some p.2) → Oth tx (newer s.heap h') rs ov := fun h' kk => by
    have g : ∀ {p : Addr × Obj}, p ∈ [(T₁, (⟨.type "tuple", none, .seq ws.toList.toArray 0, #[]⟩ : Obj)), (l, listOf vs epl), (x₄, instObj 306 dx), (dx, itemsDict hsh tkd l nd), (a, listOf ws ep₂)] → (newer s.heap h').get? p.1 = some p.2 := fun hp => newer_get (fH hp).1 (kk _ hp)
    have : k.toNat < 3 := by omega
    subst hov
    generalize k.toNat = j at this
    match j, this with
    | 0, _ => exact .set ⟨dx, hsh, tkd, nd, g (p := (x₄, _)) (by walk_at "m_mem"), g (p := (dx, _)) (by walk_at "m_mem")⟩ (listAt (g (p := (l, _)) (by walk_at "m_mem"))) hTl (insAll_sorted .nil) (insAll_contains rs) (by have := insAll_len (rs := rs) (ds := []); simp at this; omega)
    | 1, _ => exact .list (listAt (g (p := (a, _)) (by walk_at "m_mem"))) hT (by omega)
    | 2, _ => exact .tuple ⟨_, g (p := (T₁, _)) (.head _), rfl, 0, rfl⟩ hT (by omega)
  repeat' walk1
  rename Fr _ _ _ _ => F₈
  rename News _ _ _ _ => N₈
  rename_i D' h₈ lD
  have fa' := fH (p := (a, listOf ws ep₂)) (by walk_at "m_mem")
  have hDb : D' ≠ b := Nat.ne_of_gt (lD (b, listOf #[.int (x₂ / 3) t₇] ep) (List.mem_append_right _ (.head _)))
  exact h _ _ (x₂ / 3) t₇ D' a rs ws ep₂ ov (fr_hide F₈) (N₈ (b, listOf #[.int (x₂ / 3) t₇] ep) (.tail _ (List.mem_append_right _ (.head _)))).1 (N₈ _ (.head _)).1 (none_hide (N₈ _ (.head _)).2.2 hDb)
    (N₈ (a, listOf ws ep₂) (.tail _ (List.mem_append_left _ (by walk_at "m_mem")))).1 fa'.1 hT hrl (hO _ fun p hp => (N₈ p (.tail _ (List.mem_append_left _ (.tail _ hp)))).1)
end
end Mine

end

open PySem PySem.W PyProof.Rows in
example : True := by
  w_top off
  trivial
open PySem PySem.W PyProof.Rows in
example {M : Model} {A : Around} {E : Value → Shared → Prop} {s : Shared} {Q : Unit → Shared → Prop} (h : Q () s) : wpAny M A (pure ()) Q E s := by
  first
    | (walk1; exact h)
    | exact wpAny_pure h
section
open PySem PySem.W PyProof.Rows PySem.Calls PyProof.Rows.LCg
set_option Elab.async false
set_option maxRecDepth 100000
set_option maxHeartbeats 4000000
set_option linter.unusedVariables false
set_option pp.deepTerms.threshold 5
set_option pp.maxSteps 2000
namespace Mine
-- HEAD
example : PySem.Challenge.rw_vk0007_01 = PySem.Challenge.rw_vk0007_01 ∧ hd.heap_39 = hd.heap_39 := by
  k_fill
  exact ⟨rfl, rfl⟩
local macro_rules | `(tactic| walk_at "getAttr ref") => `(tactic| k_dflt (refine items_at (by assumption) (by assumption) (SetIs.stays (by assumption) (Fr.keep (by assumption))) ?_))
local macro_rules | `(tactic| walk_at "getMethod ref") => `(tactic| k_dflt (refine' meth_at ?f ?g ?s ?k1 ?k2 ?k3 ?k4 ?_; (case f => assumption); (case g => assumption); (case s => exact SetIs.stays (by assumption) (Fr.keep (by assumption))); (case k1 => k_is); (case k2 => k_is); (case k3 => k_is); (case k4 => decide)))
local macro_rules | `(tactic| walk_at "eval Name") => `(tactic| k_dflt (first
  | (refine' nameX_L ?hf ?hv ?_; (case hf => assumption); (case hv => first | (with_unfolding_all rfl) | (with_unfolding_all assumption)))
  | (refine name_B (by assumption) (by assumption) (by k_is) (by first | exact boot_reversed | exact boot_list | exact boot_range | exact boot_tuple | rfl) (by decide) ?_)
  | (refine name_G (by assumption) (by assumption) (by k_is) ?_)))
local macro_rules | `(tactic| walk_at "m_mem") => `(tactic| first | exact List.Mem.head _ | assumption | (apply List.Mem.tail; walk_at "m_mem"))
local macro_rules | `(tactic| walk_at "eval Name") => `(tactic| k_dflt (first
  | (refine' nm_L ?hf ?hv ?_; (case hf => assumption); (case hv => first | (with_unfolding_all rfl) | (with_unfolding_all assumption)))
  | (refine' nm_C ?hn ?hc ?hm ?hd ?_; (case hn => assumption); (case hc => rfl); (case hm => walk_at "m_mem"); (case hd => with_unfolding_all assumption))
  | (refine' nm_F ?hn ?hc ?hm ?hd ?_; (case hn => assumption); (case hc => rfl); (case hm => walk_at "m_mem"); (case hd => with_unfolding_all assumption))
  | (refine nm_B (by assumption) (by assumption) (by k_is) (by first | exact boot_reversed | exact boot_list | exact boot_range | exact boot_tuple | rfl) (by decide) ?_)
  | (refine nm_G (by assumption) (by assumption) (by k_is) ?_)))
-- BODY
section
variable {w : World} {A : Around} {s : Shared} {mg mb : Str → Option Value} {B : Heap} {Q : Value → Shared → Prop} {E : Value → Shared → Prop}
theorem binR {h₀ : Heap} {L : Addr} {m : Str → Option Value} {x l a : Addr} {ws : Array Value} (F : Fr h₀ L s.heap m) (G : Gr w mg mb B) (hB : Heap.StaysIn B h₀) (S : SetIs s.heap x l) (ha : s.heap.IsList a ws)
    (h : wpAny (model PySem.Challenge.rw_vk0007_01.row.prog w) A (call (.ref 156) [.ref x, .ref a]) (PySem.W.CmpBack Q) E s) :
    wpAny (model PySem.Challenge.rw_vk0007_01.row.prog w) A (binaryOp .Sub (.ref a) (.ref x)) Q E s := by
  have X := (G.keeps (up F hB)).K
  obtain ⟨dx, hsh, tk, n, h1, h2⟩ := id S
  have I : InstAt s.heap x (instObj 306 dx) 306 (some (itemsDict hsh tk l n)) := ⟨h1, rfl, rfl, h2⟩
  have hc : selfFirst (hd.heap_39 w.params) 306 = true := by k_is
  have hs : findIn (hd.heap_39 w.params) (.ref 306) (PySem.dunder "sub") = some (some (.ref 149)) := by k_is
  have hr : findIn (hd.heap_39 w.params) (.ref 306) (dunderR "sub") = some (some (.ref 156)) := by k_is
  have hf : isFn (hd.heap_39 w.params) (.ref 156) = true := by k_is
  have hl1 : findIn (hd.heap_39 w.params) (.type "list") (PySem.dunder "sub") = some none := by k_is
  have hl2 : findIn (hd.heap_39 w.params) (.type "list") (dunderR "sub") = some none := by k_is
  obtain ⟨cd, rest, hcd, hm⟩ := ksp_first hc
  have one := ksp_try (name := dunderR "sub") X I hr hf h
  have hT : s.TypeIs (.ref a) "list" := ha.typeIs
  obtain ⟨hh, g, d, tt, os⟩ := s
  have L1 : Looks (model PySem.Challenge.rw_vk0007_01.row.prog w) hh (typeOf (.ref x)) (.ref 306) := I.type
  have L3 : Looks (model PySem.Challenge.rw_vk0007_01.row.prog w) hh (fillsNumberSlot (.ref 306) "sub") true := fills_K X hcd hm hs
  have L4 : Looks (model PySem.Challenge.rw_vk0007_01.row.prog w) hh (fillsNumberSlot (.type "list") "sub") false := ksp_fillsT X hl1 hl2
  simp only [binaryOp, Operator.info]
  refine wpAny_holding (wpAny_bind ?_)
  unfold binaryOp1
  refine wpAny_bind (wpAny_typeOf hT (wpAny_bind (L1.at (wpAny_bind (L4.at ?_)))))
  have hne : (Value.type "list" == Value.ref 306) = false := by decide
  simp only [hne, Bool.false_eq_true, if_false]
  refine wpAny_bind (L3.at ?_)
  simp only [Bool.false_and, Bool.false_eq_true, if_false, if_true, Bool.and_true, Bool.not_false]
  ksp_lk
  refine wpAny_mono one (fun r s' hr' => ?_) fun _ _ e => e
  obtain ⟨v, rfl, hq⟩ := hr'
  ksp_lk
  exact hq

theorem rsub_spec {x l a : Addr} {vs ws : Array Value} {ds rs : List Nat} {tx : Bool}
    (G : Gr w mg mb B) (hB : Heap.StaysIn B s.heap) (R : Rm A 9) (S : SetIs s.heap x l) (hl : s.heap.IsList l vs) (hT : Ths tx ds vs.toList) (hs : ds.Pairwise (· < ·)) (ha : s.heap.IsList a ws) (hT' : Ths tx rs ws.toList) (hlen : rs.length < 900)
    (h : ∀ h' tk x dx l, NewSet tx s.heap h' x dx l ((rs.foldl ins []).filter fun d => !ds.contains d) → Q (.ref x) { s with heap := h', toks := tk }) :
    wpAny (model PySem.Challenge.rw_vk0007_01.row.prog w) A (call (.ref 156) [.ref x, .ref a]) Q E s := by
  refine enter0 [("self", .ref x), ("other", .ref a)] (G.K.keeps hB) (G.T.nolimit.keeps hB) (by k_is) (by k_is) R.room (BindsTo.of_eq rfl) rfl ?_ (by decide)
  intro L h₁ F N
  have G₀ := G.keeps hB
  have KX := G₀.K
  repeat' walk1
  refine make_new G (up F hB) ((R.deeper _).less (by omega)) (upL F ha) hT' hlen ?_
  intro h₄ tk₄ x₄ dx l₄ Y
  have F₄ := F.keeps Y.keep
  have N₄ := N.keeps Y.keep
  clear F N
  repeat' walk1
  have hc : selfFirst (hd.heap_39 w.params) 306 = true := by k_is
  have hsb : findIn (hd.heap_39 w.params) (.ref 306) (PySem.dunder Operator.Sub.info.2) = some (some (.ref 149)) := by k_is
  have hf : isFn (hd.heap_39 w.params) (.ref 149) = true := by k_is
  obtain ⟨dy, hsh, tk, n, h1, h2⟩ := Y.is
  obtain ⟨d2, hsh2, tk2, n2, h12, h22⟩ := S.stays F₄.keep
  have I : InstAt h₄ x₄ (instObj 306 dy) 306 (some (itemsDict hsh tk l₄ n)) := ⟨h1, rfl, rfl, h2⟩
  have I2 : InstAt h₄ x (instObj 306 d2) 306 (some (itemsDict hsh2 tk2 l n2)) := ⟨h12, rfl, rfl, h22⟩
  obtain ⟨vs₄, ep₄, el, T₄⟩ := Y.ol
  refine binop_K F₄ G₀.K I I2.type hc hsb hf (sub_spec G (up F₄ hB) ((R.deeper _).less (by omega)) Y.is (listAt el) T₄ (insAll_sorted .nil) (.set (S.stays F₄.keep) (upL F₄ hl) hT hs (fun _ => rfl) (by have := hT.len9 hs; omega)) fun h' tk z dz lz Z => ?_)
  exact h _ _ z dz lz ⟨fun b o e => Z.keep b o (F₄.keep b o e), none_of F₄.keep Z.fx, none_of F₄.keep Z.fd, none_of F₄.keep Z.fl, Z.ox, Z.od, Z.ol⟩
end
end Mine

end

open PySem PySem.W PyProof.Rows in
example : True := by
  w_top off
  trivial
open PySem PySem.W PyProof.Rows in
example {M : Model} {A : Around} {E : Value → Shared → Prop} {s : Shared} {Q : Unit → Shared → Prop} (h : Q () s) : wpAny M A (pure ()) Q E s := by
  first
    | (walk1; exact h)
    | exact wpAny_pure h
section
open PySem PySem.W PyProof.Rows PySem.Calls PyProof.Rows.LCg
set_option Elab.async false
set_option maxRecDepth 100000
set_option maxHeartbeats 4000000
set_option linter.unusedVariables false
set_option pp.deepTerms.threshold 5
set_option pp.maxSteps 2000
namespace Mine
-- HEAD
example : PySem.Challenge.rw_vk0007_01 = PySem.Challenge.rw_vk0007_01 ∧ hd.heap_39 = hd.heap_39 := by
  k_fill
  exact ⟨rfl, rfl⟩
local macro_rules | `(tactic| walk_at "getAttr ref") => `(tactic| k_dflt (refine items_at (by assumption) (by assumption) (SetIs.stays (by assumption) (Fr.keep (by assumption))) ?_))
local macro_rules | `(tactic| walk_at "getMethod ref") => `(tactic| k_dflt (refine' meth_at ?f ?g ?s ?k1 ?k2 ?k3 ?k4 ?_; (case f => assumption); (case g => assumption); (case s => exact SetIs.stays (by assumption) (Fr.keep (by assumption))); (case k1 => k_is); (case k2 => k_is); (case k3 => k_is); (case k4 => decide)))
local macro_rules | `(tactic| walk_at "eval Name") => `(tactic| k_dflt (first
  | (refine' nameX_L ?hf ?hv ?_; (case hf => assumption); (case hv => first | (with_unfolding_all rfl) | (with_unfolding_all assumption)))
  | (refine name_B (by assumption) (by assumption) (by k_is) (by first | exact boot_reversed | exact boot_list | exact boot_range | exact boot_tuple | rfl) (by decide) ?_)
  | (refine name_G (by assumption) (by assumption) (by k_is) ?_)))
local macro_rules | `(tactic| walk_at "m_mem") => `(tactic| first | exact List.Mem.head _ | assumption | (apply List.Mem.tail; walk_at "m_mem"))
local macro_rules | `(tactic| walk_at "eval Name") => `(tactic| k_dflt (first
  | (refine' nm_L ?hf ?hv ?_; (case hf => assumption); (case hv => first | (with_unfolding_all rfl) | (with_unfolding_all assumption)))
  | (refine' nm_C ?hn ?hc ?hm ?hd ?_; (case hn => assumption); (case hc => rfl); (case hm => walk_at "m_mem"); (case hd => with_unfolding_all assumption))
  | (refine' nm_F ?hn ?hc ?hm ?hd ?_; (case hn => assumption); (case hc => rfl); (case hm => walk_at "m_mem"); (case hd => with_unfolding_all assumption))
  | (refine nm_B (by assumption) (by assumption) (by k_is) (by first | exact boot_reversed | exact boot_list | exact boot_range | exact boot_tuple | rfl) (by decide) ?_)
  | (refine nm_G (by assumption) (by assumption) (by k_is) ?_)))
-- BODY
section
variable {w : World} {A : Around} {s : Shared} {mg mb : Str → Option Value} {B : Heap} {Q : Value → Shared → Prop} {E : Value → Shared → Prop}
def pickN (ds : List Nat) (lo hi : Option Int) : List Nat := (ds.drop (kms_lo lo ds.length)).take (kms_hi hi ds.length - kms_lo lo ds.length)
theorem Ths.pick {tx : Bool} {ds : List Nat} {vs : Array Value} (t : Ths tx ds vs.toList) (lo hi : Option Int) : Ths tx (pickN ds lo hi) (slicePick vs lo hi none).toList := by
  rw [kms_pick_eq]
  show Ths tx _ (kms_pick vs.toList lo hi)
  unfold pickN kms_pick
  rw [← t.len]
  exact (t.drop _).take _
theorem pickN_len (ds : List Nat) (lo hi : Option Int) : (pickN ds lo hi).length ≤ ds.length := by
  unfold pickN
  rw [List.length_take, List.length_drop]; omega
theorem getslice_spec {x l sl : Addr} {vs : Array Value} {vl vu : Value} {lo hi : Option Int} {ds : List Nat} {tx : Bool}
    (G : Gr w mg mb B) (hB : Heap.StaysIn B s.heap) (R : Rm A 2) (S : SetIs s.heap x l) (hl : s.heap.IsList l vs) (hT : Ths tx ds vs.toList) (hlen : vs.size < 1000) (hsl : s.heap.IsSliceOf sl vl vu .none) (pl : IsPart vl lo) (pu : IsPart vu hi)
    (h : ∀ h' tk D ws c, Heap.StaysIn s.heap h' → s.heap.get? D = none → h'.get? D = some (listOf ws c) → Ths tx (pickN ds lo hi) ws.toList → Q (.ref D) { s with heap := h', toks := tk }) :
    wpAny (model PySem.Challenge.rw_vk0007_01.row.prog w) A (call (.ref 51) [.ref x, .ref sl]) Q E s := by
  refine enter0 [("self", .ref x), ("i", .ref sl)] (G.K.keeps hB) (G.T.nolimit.keeps hB) (by k_is) (by k_is) R.room (BindsTo.of_eq rfl) rfl ?_ (by decide)
  intro L h₁ F N
  have G₀ := G.keeps hB
  have KX := G₀.K
  repeat' walk1
  have hsl' : h₁.IsSliceOf sl vl vu .none := by
    obtain ⟨o, a, b, c⟩ := hsl
    exact ⟨o, F.keep _ _ a, b, c⟩
  refine tail_any (upL F hl).typeIs slot_list_getitem.lookup (wpAny_getItem_list_slice (upL F hl) hsl' pl pu .none (by decide) ?_ (by rw [sizeLine_eq]; omega)) (ops := [.ref l, .ref sl]) (by with_unfolding_all rfl)
  exact h _ _ _ _ 0 (fun b o e => Heap.get?_push_of_some _ (F.keep b o e)) (none_of_ge F.keep (Nat.le_refl _)) (Heap.get?_push_size _ rfl) (hT.pick lo hi)
end
end Mine

end

open PySem PySem.W PyProof.Rows in
example : True := by
  w_top off
  trivial
open PySem PySem.W PyProof.Rows in
example {M : Model} {A : Around} {E : Value → Shared → Prop} {s : Shared} {Q : Unit → Shared → Prop} (h : Q () s) : wpAny M A (pure ()) Q E s := by
  first
    | (walk1; exact h)
    | exact wpAny_pure h
section
open PySem PySem.W PyProof.Rows PySem.Calls PyProof.Rows.LCg
set_option Elab.async false
set_option maxRecDepth 100000
set_option maxHeartbeats 4000000
set_option linter.unusedVariables false
set_option pp.deepTerms.threshold 5
set_option pp.maxSteps 2000
namespace Mine
-- HEAD
example : PySem.Challenge.rw_vk0007_01 = PySem.Challenge.rw_vk0007_01 ∧ hd.heap_39 = hd.heap_39 := by
  k_fill
  exact ⟨rfl, rfl⟩
local macro_rules | `(tactic| walk_at "getAttr ref") => `(tactic| ((with_reducible show wpAny _ _ (getAttr _ (PySem.Str.ofString "_items") _) _ _ _); k_dflt (refine items_at (by assumption) (by assumption) (SetIs.stays (by assumption) (Fr.keep (by assumption))) ?_)))
local macro_rules | `(tactic| walk_at "getMethod ref") => `(tactic| k_dflt (refine' meth_at ?f ?g ?s ?k1 ?k2 ?k3 ?k4 ?_; (case f => assumption); (case g => assumption); (case s => exact SetIs.stays (by assumption) (Fr.keep (by assumption))); (case k1 => k_is); (case k2 => k_is); (case k3 => k_is); (case k4 => decide)))
local macro_rules | `(tactic| walk_at "eval Name") => `(tactic| k_dflt (first
  | (refine' nameX_L ?hf ?hv ?_; (case hf => assumption); (case hv => first | (with_unfolding_all rfl) | (with_unfolding_all assumption)))
  | (refine name_B (by assumption) (by assumption) (by k_is) (by first | exact boot_reversed | exact boot_list | exact boot_range | exact boot_tuple | rfl) (by decide) ?_)
  | (refine name_G (by assumption) (by assumption) (by k_is) ?_)))
local macro_rules | `(tactic| walk_at "m_mem") => `(tactic| first | exact List.Mem.head _ | assumption | (apply List.Mem.tail; walk_at "m_mem"))
local macro_rules | `(tactic| walk_at "eval Name") => `(tactic| k_dflt (first
  | (refine' nm_L ?hf ?hv ?_; (case hf => assumption); (case hv => first | (with_unfolding_all rfl) | (with_unfolding_all assumption)))
  | (refine' nm_C ?hn ?hc ?hm ?hd ?_; (case hn => assumption); (case hc => rfl); (case hm => walk_at "m_mem"); (case hd => with_unfolding_all assumption))
  | (refine' nm_F ?hn ?hc ?hm ?hd ?_; (case hn => assumption); (case hc => rfl); (case hm => walk_at "m_mem"); (case hd => with_unfolding_all assumption))
  | (refine nm_B (by assumption) (by assumption) (by k_is) (by first | exact boot_reversed | exact boot_list | exact boot_range | exact boot_tuple | rfl) (by decide) ?_)
  | (refine nm_G (by assumption) (by assumption) (by k_is) ?_)))
-- BODY
section
variable {w : World} {A : Around} {s : Shared} {mg mb : Str → Option Value} {B : Heap} {Q : Value → Shared → Prop} {E : Value → Shared → Prop}
theorem class_at {h₀ : Heap} {L : Addr} {m : Str → Option Value} {x l : Addr} {e : Bool} (F : Fr h₀ L s.heap m) (G : Gr w mg mb h₀) (S : SetIs s.heap x l) (h : Q (.ref 306) { s with toks := s.toks + 1 }) :
    wpAny (model PySem.Challenge.rw_vk0007_01.row.prog w) A (getAttr (.ref x) "__class__" e) Q E s := by
  have h1 : plainGet (hd.heap_39 w.params) 306 "__class__" = true := by k_is
  have h2 : hasDictIn (hd.heap_39 w.params) 306 = true := by k_is
  have h3 : findIn (hd.heap_39 w.params) (.ref 306) "__class__" = some (some (.builtin "object.__class__")) := by k_is
  have h4 : specialIn (hd.heap_39 w.params) (.builtin "object.__class__") "__get__" = some (some (.builtin "getset_descriptor.__get__")) := by k_is
  have h5 : takesIn (hd.heap_39 w.params) (.builtin "object.__class__") = some true := by k_is
  have h6 : mroIn (hd.heap_39 w.params) 306 (.type "object") = some true := by k_is
  obtain ⟨dx, hsh, tk, n, e1, e2⟩ := S
  have I : InstAt s.heap x (instObj 306 dx) 306 (some (itemsDict hsh tk l n)) := ⟨e1, rfl, rfl, e2⟩
  exact get_class F G.K I h1 h2 h3 h4 h5 h6 h
local macro_rules | `(tactic| walk_at "getAttr ref") => `(tactic| ((with_reducible show wpAny _ _ (getAttr _ (PySem.Str.ofString "__class__") _) _ _ _); k_dflt (refine class_at (by assumption) (by assumption) (SetIs.stays (by assumption) (Fr.keep (by assumption))) ?_)))
theorem ne_spec {x l y ly : Addr} {vs ws : Array Value} {ds es : List Nat} {tx : Bool}
    (G : Gr w mg mb B) (hB : Heap.StaysIn B s.heap) (R : Rm A 2) (S : SetIs s.heap x l) (hl : s.heap.IsList l vs) (hT : Ths tx ds vs.toList) (S' : SetIs s.heap y ly) (hl' : s.heap.IsList ly ws) (hT' : Ths tx es ws.toList)
    (h : ∀ h' tk, Heap.StaysIn s.heap h' → Q (.bool (!(ds == es))) { s with heap := h', toks := tk }) :
    wpAny (model PySem.Challenge.rw_vk0007_01.row.prog w) A (call (.ref 86) [.ref x, .ref y]) Q E s := by
  refine enterCells [("self", .ref x), ("other", .ref y)] (G.K.keeps hB) (G.T.nolimit.keeps hB) (by k_is) (by k_is) R.room (BindsTo.of_eq rfl) rfl (by decide) ?_
  intro L h₁ tk cells F N Y hlt
  obtain ⟨oc, rfl, hoc⟩ := CellsAre.one Y
  have G₀ := G.keeps hB
  have KX := G₀.K
  repeat' walk1
  refine isinst_set F G hB (S'.stays F.keep) ?_
  repeat' walk1
  refine ne_things (upL F hl) (upL F hl') hT hT' (R.deeper _).units ?_
  repeat' walk1
  exact h _ _ F.keep
theorem with_obj {K : Frag} {f : Addr} {P : Prop} {c : Value} {d : Option Addr} {da : Data} {sl : Array (Option Value)} (ho : K.lookup f = some ⟨c, d, da, sl⟩) (k : K.lookup f = some ⟨c, d, da, sl⟩ → P) : P := k ho
open Builtin Builtin.ObjectAttr Builtin.Getset_descriptor in
theorem cname_get {R : Result → Shared → Prop} (G : Gr w mg mb s.heap) (h : R (.ok (.ret (.str (PySem.Str.ofString "SortedSet") 196))) s) :
    codeAny (model PySem.Challenge.rw_vk0007_01.row.prog w) A (.call (.builtin "getset_descriptor.__get__") ⟨[.builtin "type.__name__", .ref 306, .type "type"], []⟩) R s := by
  have ht : typeIn (hd.heap_39 w.params) (.ref 306) = some (.type "type") := by k_is
  refine with_obj (K := hd.heap_39 w.params) (f := 306) (by k_is) fun ho => ?_
  have ho' := G.K _ _ ho
  have X := G.K
  obtain ⟨hh, g, dr, t, os⟩ := s
  have L0 : Looks (model PySem.Challenge.rw_vk0007_01.row.prog w) hh (typeOf (.ref 306)) (.type "type") := looks_typeIn X ht
  have L1 : Looks (model PySem.Challenge.rw_vk0007_01.row.prog w) hh (isSubtype (.type "type") (.type "type")) true := Looks.of_pure (by rw [isSubtype_type]; kernel_rfl)
  refine codeAny_call_builtin KF.slot_gs.plain KF.entry_gs (KF.slot_gs.check _ _ _ _ _ _ _ _ ktyn_type (KF.args_gs _ _ _) ?_)
  unfold Builtin.«getset_descriptor.__get__» descrGet
  rw [show descrGetArgs ⟨[.builtin "type.__name__", .ref 306, .type "type"], []⟩ = pure (.builtin "type.__name__", some (.ref 306), given (.type "type")) by kernel_rfl]
  refine wpAny_bind (wpAny_pure ?_)
  unfold descrGetter descrCheckInstance descrNameAndClass isInstance
  simp only [ktyn_owner]
  repeat lk
  refine ⟨Code.quiet_builtin _ (by decide +kernel), codeAny_builtin ktyn_entry ?_⟩
  unfold Builtin.«type.__name__» keptObject slotAt
  dsimp only
  refine wpAny_bind (wpAny_bind (wpAny_loadPart ho' (wpAny_pure ?_)))
  first
    | exact wpAny_pure (wpAny_pure h)
    | exact wpAny_pure h
    | exact wpAny_bind (wpAny_pure (wpAny_pure h))
theorem cname_at {h₀ : Heap} {L : Addr} {m : Str → Option Value} {e : Bool} (F : Fr h₀ L s.heap m) (G : Gr w mg mb h₀) (h : ∀ tk, Q (.str (PySem.Str.ofString "SortedSet") 196) { s with toks := tk }) :
    wpAny (model PySem.Challenge.rw_vk0007_01.row.prog w) A (getAttr (.ref 306) "__name__" e) Q E s := by
  have G' := G.keeps F.keep
  have X := G'.K
  have ht : typeIn (hd.heap_39 w.params) (.ref 306) = some (.type "type") := by k_is
  have hcs : nsIn (hd.heap_39 w.params) cStatics "thirdparty.any" = some none := by k_is
  have ef : findCls (hd.heap_39 w.params) (.ref 306) (.type "type") "__name__" = some (.get (.builtin "getset_descriptor.__get__") (.builtin "type.__name__") (.ref 306) (.type "type")) := by k_is
  have L0 : Looks (model PySem.Challenge.rw_vk0007_01.row.prog w) s.heap (typeOf (.ref 306)) (.type "type") := looks_typeIn X ht
  have hg : findIn (hd.heap_39 w.params) (.type "type") "__getattribute__" = some (some (.builtin "type.__getattribute__")) := by k_is
  refine cls_open X (looks_opaque X hcs) L0 hg (looks_hook X (r := none) (by rfl)) (by show subIn (hd.heap_39 w.params) _ _ = _; k_is) ef ?_
  show wpAny _ _ (do ret (← holding [Value.builtin "type.__name__"] (call (.builtin "getset_descriptor.__get__") [.builtin "type.__name__", .ref 306, .type "type"]))) _ _ _
  refine wpAny_bind (wpAny_holding (wpAny_call (cname_get G' ?_)))
  exact wpAny_pure (handed_on rfl (h _))
def pdOf (tx : Bool) (r : Nat) : PyData := if tx then .str (tabS.getD r "") else .int ((r : Int) - 4)
theorem IsTh.reads {tx : Bool} {r : Nat} {v : Value} (h : Heap) (t : IsTh tx r v) : Reads h v (pdOf tx r) [] := by
  obtain ⟨_, t⟩ := t
  cases tx with
  | false => obtain ⟨u, rfl⟩ := t; exact .int _ _
  | true => obtain ⟨u, rfl⟩ := t; exact .str _ _
theorem Ths.reads {tx : Bool} {ds : List Nat} {vs : List Value} (h : Heap) (t : Ths tx ds vs) : ReadsAll h vs (ds.map (pdOf tx)) [] := by
  induction t with
  | nil => exact .nil
  | cons a _ ih => exact .cons (as := []) (bs := []) (a.reads h) ih
theorem pd_len : ∀ tx, ∀ r < 9, (pdOf tx r).shown.length ≤ 8 := by decide +kernel
theorem pd_showable : ∀ tx, ∀ r < 9, (pdOf tx r).showable = true ∧ (pdOf tx r).hasDict = false ∧ (pdOf tx r).depth = 0 := by decide +kernel
theorem textFrom_le : ∀ (ts : List PySem.Str) (k : Nat) (acc : PySem.Str), (∀ t ∈ ts, t.length ≤ 8) → (textFrom k acc ts).length ≤ acc.length + 10 * ts.length
  | [], _, acc, _ => by show acc.length ≤ _; omega
  | t :: r, k, acc, h => by
    have h1 := textFrom_le r (k + 1) (acc ++ (if k > 0 then ", " else "" : String) ++ t) fun x hx => h x (.tail _ hx)
    have h2 := h t (.head _)
    have e : (acc ++ PySem.Str.ofString (if k > 0 then ", " else "" : String) ++ t).length ≤ acc.length + 2 + t.length := by
      rw [PySem.Str.length_append, PySem.Str.length_append]
      have : (PySem.Str.ofString (if k > 0 then ", " else "" : String)).length ≤ 2 := by split <;> decide +kernel
      omega
    show (textFrom (k + 1) (acc ++ (if k > 0 then ", " else "" : String) ++ t) r).length ≤ _
    rw [List.length_cons]; omega
theorem shownAll_map (tx : Bool) : ∀ ds : List Nat, PyData.shownAll (ds.map (pdOf tx)) = ds.map fun r => (pdOf tx r).shown
  | [] => by simp only [List.map, PyData.shownAll]
  | d :: ds => by simp only [List.map, PyData.shownAll, shownAll_map tx ds]
/-- the text of a list of these things -/
def txtOf (tx : Bool) (ds : List Nat) : PySem.Str := (PyData.list (ds.map (pdOf tx))).shown
theorem txtOf_len {tx : Bool} {ds : List Nat} (h : ∀ d ∈ ds, d < 9) : (txtOf tx ds).length ≤ 2 + 10 * ds.length := by
  unfold txtOf
  rw [PyData.shown, shownAll_map]
  unfold listText
  rw [PySem.Str.length_append]
  have := textFrom_le (ds.map fun r => (pdOf tx r).shown) 0 "[" fun t ht => by
    obtain ⟨r, hr, rfl⟩ := List.mem_map.mp ht
    exact pd_len tx r (h r hr)
  rw [List.length_map] at this
  have e1 : (PySem.Str.ofString "[").length = 1 := by decide +kernel
  have e2 : (PySem.Str.ofString "]").length = 1 := by decide +kernel
  omega
theorem list_meta {tx : Bool} : ∀ {ds : List Nat}, (∀ d ∈ ds, d < 9) → PyData.showableAll (ds.map (pdOf tx)) = true ∧ PyData.hasDictAll (ds.map (pdOf tx)) = false ∧ PyData.depthAll (ds.map (pdOf tx)) = 0
  | [], _ => ⟨by simp only [List.map, PyData.showableAll], by simp only [List.map, PyData.hasDictAll], by simp only [List.map, PyData.depthAll]⟩
  | d :: ds, h => by
    obtain ⟨a, b, c⟩ := pd_showable tx d (h d (.head _))
    obtain ⟨a', b', c'⟩ := list_meta (tx := tx) fun x hx => h x (.tail _ hx)
    exact ⟨by simp [List.map, PyData.showableAll, a, a'], by simp [List.map, PyData.hasDictAll, b, b'], by simp [List.map, PyData.depthAll, c, c']⟩
theorem list_reads {h : Heap} {a : Addr} {vs : Array Value} {tx : Bool} {ds : List Nat} (hl : h.IsList a vs) (hT : Ths tx ds vs.toList) : Reads h (.ref a) (.list (ds.map (pdOf tx))) [a] := by
  obtain ⟨o, e, c, n, d⟩ := hl
  exact .list e c d (hT.reads h)
local macro_rules | `(tactic| walk_at "getAttr ref") => `(tactic| ((with_reducible show wpAny _ _ (getAttr (Value.ref 306) (PySem.Str.ofString "__name__") _) _ _ _); k_dflt (refine cname_at (by assumption) (by assumption) ?_); intro _))
theorem repr_spec {x l : Addr} {vs : Array Value} {ds : List Nat} {tx : Bool}
    (G : Gr w mg mb B) (hB : Heap.StaysIn B s.heap) (R : Rm A 2) (hg : A.guards = some []) (S : SetIs s.heap x l) (hl : s.heap.IsList l vs) (hT : Ths tx ds vs.toList) (hlen : ds.length < 100)
    (h : ∀ h' tk u, Heap.StaysIn s.heap h' → Q (.str (PySem.Str.ofString "SortedSet(" ++ txtOf tx ds ++ PySem.Str.ofString ")") u) { s with heap := h', toks := tk }) :
    wpAny (model PySem.Challenge.rw_vk0007_01.row.prog w) A (call (.ref 72) [.ref x]) Q E s := by
  refine enter0 [("self", .ref x)] (G.K.keeps hB) (G.T.nolimit.keeps hB) (by k_is) (by k_is) R.room (BindsTo.of_eq rfl) rfl ?_ (by decide)
  intro L h₁ F N
  have G₀ := G.keeps hB
  have KX := G₀.K
  repeat' walk1
  have h9 := hT.lt
  obtain ⟨m1, m2, m3⟩ := list_meta (tx := tx) h9
  refine pyReprObj_of_reads (list_reads (upL F hl) hT) (by simpa [PyData.showable] using m1) (by simp [PyData.hasDict, m2]) hg (by have := R.u; show A.units + 3 + (PyData.list (ds.map (pdOf tx))).depth < _; simp only [PyData.depth, m3]; omega) (fun _ _ e => e) ?_ (by have := txtOf_len (tx := tx) h9; unfold txtOf at this; rw [sizeLine_eq]; omega)
  intro h₂ u tk₂ k₂
  have F₂ := Fr.keeps (by assumption : Fr s.heap L h₁ _) k₂
  have N₂ := News.keeps (by assumption : News s.heap L h₁ _) k₂
  have e3 := txtOf_len (tx := tx) h9
  change wpAny _ _ (formatField (.str (txtOf tx ds) u) _) _ _ _
  generalize txtOf tx ds = T at *
  have es : PySem.Str.empty ++ PySem.Str.ofString "SortedSet" ++ PySem.Str.ofString "(" = PySem.Str.ofString "SortedSet(" := by decide +kernel
  clear F N
  repeat' walk1
  dsimp only
  rw [es]
  exact h _ _ _ F₂.keep
end
end Mine

end

open PySem PySem.W PyProof.Rows in
example : True := by
  w_top off
  trivial
open PySem PySem.W PyProof.Rows in
example {M : Model} {A : Around} {E : Value → Shared → Prop} {s : Shared} {Q : Unit → Shared → Prop} (h : Q () s) : wpAny M A (pure ()) Q E s := by
  first
    | (walk1; exact h)
    | exact wpAny_pure h
section
open PySem PySem.W PyProof.Rows PySem.Calls PyProof.Rows.LCg
set_option Elab.async false
set_option maxRecDepth 100000
set_option maxHeartbeats 4000000
set_option linter.unusedVariables false
set_option pp.deepTerms.threshold 5
set_option pp.maxSteps 2000
namespace Mine
-- HEAD
example : PySem.Challenge.rw_vk0007_01 = PySem.Challenge.rw_vk0007_01 ∧ hd.heap_39 = hd.heap_39 := by
  k_fill
  exact ⟨rfl, rfl⟩
local macro_rules | `(tactic| walk_at "getAttr ref") => `(tactic| ((with_reducible show wpAny _ _ (getAttr _ (PySem.Str.ofString "_items") _) _ _ _); k_dflt (refine items_at (by assumption) (by assumption) (SetIs.stays (by assumption) (Fr.keep (by assumption))) ?_)))
local macro_rules | `(tactic| walk_at "getMethod ref") => `(tactic| k_dflt (refine' meth_at ?f ?g ?s ?k1 ?k2 ?k3 ?k4 ?_; (case f => assumption); (case g => assumption); (case s => exact SetIs.stays (by assumption) (Fr.keep (by assumption))); (case k1 => k_is); (case k2 => k_is); (case k3 => k_is); (case k4 => decide)))
local macro_rules | `(tactic| walk_at "eval Name") => `(tactic| k_dflt (first
  | (refine' nameX_L ?hf ?hv ?_; (case hf => assumption); (case hv => first | (with_unfolding_all rfl) | (with_unfolding_all assumption)))
  | (refine name_B (by assumption) (by assumption) (by k_is) (by first | exact boot_reversed | exact boot_list | exact boot_range | exact boot_tuple | rfl) (by decide) ?_)
  | (refine name_G (by assumption) (by assumption) (by k_is) ?_)))
local macro_rules | `(tactic| walk_at "m_mem") => `(tactic| first | exact List.Mem.head _ | assumption | (apply List.Mem.tail; walk_at "m_mem"))
local macro_rules | `(tactic| walk_at "eval Name") => `(tactic| k_dflt (first
  | (refine' nm_L ?hf ?hv ?_; (case hf => assumption); (case hv => first | (with_unfolding_all rfl) | (with_unfolding_all assumption)))
  | (refine' nm_C ?hn ?hc ?hm ?hd ?_; (case hn => assumption); (case hc => rfl); (case hm => walk_at "m_mem"); (case hd => with_unfolding_all assumption))
  | (refine' nm_F ?hn ?hc ?hm ?hd ?_; (case hn => assumption); (case hc => rfl); (case hm => walk_at "m_mem"); (case hd => with_unfolding_all assumption))
  | (refine nm_B (by assumption) (by assumption) (by k_is) (by first | exact boot_reversed | exact boot_list | exact boot_range | exact boot_tuple | rfl) (by decide) ?_)
  | (refine nm_G (by assumption) (by assumption) (by k_is) ?_)))
local macro_rules | `(tactic| walk_at "getAttr ref") => `(tactic| ((with_reducible show wpAny _ _ (getAttr _ (PySem.Str.ofString "__class__") _) _ _ _); k_dflt (refine class_at (by assumption) (by assumption) (SetIs.stays (by assumption) (Fr.keep (by assumption))) ?_)))
-- BODY
section
variable {w : World} {A : Around} {s : Shared} {mg mb : Str → Option Value} {B : Heap} {Q : Value → Shared → Prop} {E : Value → Shared → Prop}
theorem code78 (w : World) {h : Heap} (X : (hd.heap_39 w.params).In h) (e : h.get? 74 = some { cls := .none, data := .fields #[] }) : h.IsCode 78 74 #[] ∧ h.TableAt 78 74 #[] := by
  refine with_obj (K := hd.heap_39 w.params) (f := 78) (by k_is) fun ho => ?_
  have ho' := X _ _ ho
  exact ⟨⟨_, _, _, _, _, _, _, _, _, _, ho', rfl, rfl, rfl, rfl, rfl, rfl, e, rfl, True.intro, (by decide)⟩, ⟨⟨_, _, ho', rfl, rfl, rfl⟩, e⟩⟩

theorem isinst_list {b : Addr} {o : Obj} (G : Gr w mg mb s.heap) (e : s.heap.get? b = some o) (c : o.cls = .type "list") (h : Q (.bool false) { s with toks := s.toks + 1 }) :
    wpAny (model PySem.Challenge.rw_vk0007_01.row.prog w) A (call (.builtin "isinstance") [.ref b, .ref 306]) Q E s := by
  have ht : s.TypeIs (.ref b) "list" := ⟨o, e, c⟩
  have hn : isNotIn (hd.heap_39 w.params) "list" 306 = true := by k_not
  exact isn_call (T := "list") (P := fun h => ∃ o, h.get? b = some o ∧ o.cls = .type "list") G.K (fun M A Q E s' k q => wpAny_typeOf ⟨o, k _ _ e, c⟩ q) hn (by intro e; cases e) ⟨o, e, c⟩ (fun p q => list_cls p q) h
theorem pass_all (n : Nat) : passing (fun _ => true) n 0 = List.range n := by
  unfold passing
  rw [List.drop_zero]
  exact List.filter_eq_self.mpr fun _ _ => rfl
theorem eq_spec {x l b : Addr} {ob : Obj} {vs ws : Array Value} {ds es : List Nat} {tx : Bool} {bm : Addr} {obm : Obj}
    (G : Gr w mg mb B) (hB : Heap.StaysIn B s.heap) (hPB : B.get? 74 = none) (hP : s.heap.get? 74 = some { cls := .none, data := .fields #[] }) (MB : BMod B mainGlobals mg bm obm) (hbare : AllBare s.gens)
    (R : Rm A 6) (S : SetIs s.heap x l) (hl : s.heap.IsList l vs) (hT : Ths tx ds vs.toList) (hs : ds.Pairwise (· < ·)) (hl' : s.heap.IsList b ws) (hT' : Ths tx es ws.toList) (hlen' : es.length < 900)
    (h : ∀ s' ps, Off [74] s.heap s'.heap → s'.heap.get? 74 = some { cls := .none, data := .fields ps } → AllBare s'.gens → s'.os = s.os → Q (.bool ((es.length == ds.length) && es.all fun r => ds.contains r)) s') :
    wpAny (model PySem.Challenge.rw_vk0007_01.row.prog w) A (call (.ref 79) [.ref x, .ref b]) Q E s := by
  have hlen := hT.len9 hs
  obtain ⟨ob, hob, hoc', _⟩ := id hl'
  refine enterCells [("self", .ref x), ("other", .ref b)] (G.K.keeps hB) (G.T.nolimit.keeps hB) (by k_is) (by k_is) R.room (BindsTo.of_eq rfl) rfl (by decide) ?_
  intro L h₁ tk cells F N Y hlt
  obtain ⟨oc, rfl, hoc⟩ := CellsAre.one Y
  have G₀ := G.keeps hB
  have KX := G₀.K
  repeat' walk1
  refine isinst_list (G₀.keeps F.keep) (F.keep _ _ hob) hoc' ?_
  repeat' walk1
  refine try_ok ?_
  repeat' walk1
  have e1 := hT.len.trans (Array.length_toList (xs := vs))
  have e2 := hT'.len.trans (Array.length_toList (xs := ws))
  refine call_len_list (upL F hl') (by omega) ?_
  repeat' walk1
  · rename_i hcmp
    have hM : BMod s.heap mainGlobals mg bm obm := MB.keeps hB
    obtain ⟨c78, t78⟩ := code78 w G₀.K hP
    have hB' : ∀ ps, Heap.StaysIn B (regrown s.heap 74 ps) := fun ps q o e => by
      have hne : q ≠ 74 := fun q' => by rw [q', hPB] at e; cases e
      exact (Heap.get?_update_other _ _ (Ne.symm hne)).trans (hB q o e)
    have hoth : ∀ ps q, q ≠ 74 → (regrown s.heap 74 ps).get? q = s.heap.get? q := fun ps q hq => Heap.get?_update_other _ _ (Ne.symm hq)
    have hcs : (74 : Addr) ≠ cStatics := by decide
    obtain ⟨mm, F', hmo⟩ : ∃ mm, Fr s.heap L h₁ mm ∧ mm "other" = some (.ref b) := ⟨_, F, rfl⟩
    clear F
    refine GeneratorExp_list_rowsF (L := L) (h₁ := s.heap) (h₀ := s.heap) (c := 78) (P := 74) (ps := #[]) (m := mm)
      (Based.start c78 t78 hcs) hM ?hcode ?hnf R.hh ?hco (cl := [("self", L + 1)]) ?hclos ?hcell ?h0 ?hx ?hkind (Rm.room (R.deeper _)) ?_ ?hs
    case hcode => rfl
    case hnf => rfl
    case hco => rfl
    case hcell => decide
    case h0 => rfl
    case hx => rfl
    case hkind => rfl
    case hs => intro _; rfl
    case hclos => rfl
    walk1
    refine ⟨b, ws, rfl, upL F' hl', F', hbare, G₀.T.nolimit.keeps F'.keep, L + 1, fun _ => true, fun i y => ∃ r, es[i]? = some r ∧ y = .bool (ds.contains r), Nat.le_succ L, Heap.lt_size (N.get (.head _)), ?_, ?_, ?_⟩
    · intro c' C A' E' i v t m₂ hA hD hU hi F₂ hm hLC hk
      exact wpAny_tests_nil ⟨rfl, t.heap, t.toks, rfl, fun _ _ e => e⟩
    · intro c' C A' E' i v t m₂ hA hD hU hi _ F₂ hm hLC hk
      obtain ⟨ps', F₂⟩ : ∃ ps', Fr (regrown s.heap 74 ps') C t.heap m₂ := ⟨_, F₂⟩
      obtain ⟨r, hr1, hr2⟩ := hT'.get (i := i) (v := v) (by rw [Array.getElem?_toList]; exact hi)
      have g1 := N.get (.head _)
      have hL1 : L + 1 ≠ 74 := Nat.ne_of_gt (Nat.lt_succ_of_lt (hlt _ _ hP))
      have N₂ : News (regrown s.heap 74 ps') C t.heap [(L + 1, oc)] := fun p hp => by
        rw [List.mem_singleton.mp hp]
        refine ⟨hk _ _ hL1 g1, fun q => ?_, (hoth _ _ hL1).trans (N _ (.head _)).2.2⟩
        obtain ⟨oL, eL, nL⟩ := ns_obj F₂.ns
        have q2 := hk _ _ hL1 g1
        change L + 1 = C at q
        rw [q, eL] at q2
        cases q2
        obtain ⟨_, _, q3, _⟩ := nL
        rw [hoc] at q3; cases q3
      have R' : Rm A' 4 := ⟨hA, by
        have := R.d
        change A'.depth ≤ A.depth + 1 + 1 at hD
        omega, by
        have := R.u
        change A'.units ≤ A.units + 3 + 8 at hU
        omega⟩
      have KX := (G.keeps (hB' ps')).K
      have hne74 : ∀ q o, s.heap.get? q = some o → o.cls ≠ .none → (regrown s.heap 74 ps').get? q = some o := fun q o e c => (hoth _ _ (fun q' => by rw [q', hP] at e; cases e; exact c rfl)).trans e
      have S' : SetIs (regrown s.heap 74 ps') x l := by
        obtain ⟨dx, hsh, tkd, nd, h1, h2⟩ := S
        exact ⟨dx, hsh, tkd, nd, hne74 _ _ h1 (by intro q; cases q), hne74 _ _ h2 (by intro q; cases q)⟩
      have hl'' : (regrown s.heap 74 ps').IsList l vs := by
        obtain ⟨o, e1, e2, e3⟩ := hl
        exact ⟨o, hne74 _ _ e1 (by rw [e2]; intro q; cases q), e2, e3⟩
      have hm' : m₂ "item" = some v := hm
      iterate 3 walk1
      refine in_oth F₂ G (hB' _) (R'.less (by omega)) (.set (S'.stays F₂.keep) (upL F₂ hl'') hT hs (fun _ => rfl) (by omega)) hr2 ?_
      intro h' tk k
      exact ⟨⟨r, hr1, rfl⟩, h', tk, rfl, k⟩
    · intro c' a s₅ Bs F₅ hb₅ hos₅ hk₅ X
      obtain ⟨ps', F₅, t₅⟩ : ∃ ps', Fr (regrown s.heap 74 ps') L s₅.heap mm ∧ (regrown s.heap 74 ps').TableAt 78 74 ps' := ⟨_, F₅, Bs.tab⟩
      have hn : (passing (fun _ => true) ws.size 0).length = es.length := by rw [pass_all, List.length_range, e2]
      rw [hn] at X
      have eF : ∀ (j : Nat) (y : Value), (∃ i : Nat, (passing (fun _ => true) ws.size 0)[j]? = some i ∧ ∃ r : Nat, es[i]? = some r ∧ y = Value.bool (ds.contains r)) → ∃ r : Nat, es[j]? = some r ∧ y = Value.bool (ds.contains r) := by
        rintro j y ⟨i, hi, r, hr, hy⟩
        refine ⟨r, ?_, hy⟩
        have : i = j := by
          rw [pass_all] at hi
          have hj : j < ws.size := by
            rcases Nat.lt_or_ge j ws.size with q | q
            · exact q
            · rw [List.getElem?_eq_none (by rw [List.length_range]; exact q)] at hi; cases hi
          rw [List.getElem?_eq_getElem (by rw [List.length_range]; exact hj), List.getElem_range] at hi
          cases hi; rfl
        rw [← this]; exact hr
      have X' := X.imp eF
      clear X
      repeat' walk1
      refine all_rowsK F₅ hb₅ X' (Nat.le_succ L) (fun j => match es[j]? with | some r => ds.contains r | none => true) ?_ ?_
      · rintro i v u Q' E' ⟨r, hr, rfl⟩ hQ
        dsimp only at hQ
        rw [hr] at hQ
        exact wpAny_truthy_bool hQ
      · intro s' F' hb' hos' hk'
        have e3 : (es.all fun b => ds.contains b) = ((es.length == ds.length) && es.all fun r => ds.contains r) := by
          have : (es.length == ds.length) = true := beq_iff_eq.mpr (by omega)
          rw [this, Bool.true_and]
        have e4 : ((List.range es.length).all fun j => match es[j]? with | some r => ds.contains r | none => true) = (es.all fun b => ds.contains b) := by
          refine Eq.trans ?_ (all_rangeD es fun b => ds.contains b)
          congr 1
          funext j
          cases es[j]? <;> rfl
        rw [e4, e3]
        refine h s' ps' (fun q o hq e => F'.keep q o ((hoth _ _ (fun w => hq (List.mem_singleton.mpr w))).trans e)) (F'.keep _ _ t₅.2) hb' ?_
        exact hos'.trans hos₅
  · rename_i hcmp
    have e3 : ((ws.size : Int) == (vs.size : Int)) = ((es.length == ds.length) && es.all fun r => ds.contains r) := by
      have q1 : ((ws.size : Int) == (vs.size : Int)) = false := Bool.eq_false_iff.mpr fun q => hcmp (beq_iff_eq.mp q)
      have q2 : (es.length == ds.length) = false := Bool.eq_false_iff.mpr fun q => hcmp (by have := beq_iff_eq.mp q; omega)
      rw [q1, q2, Bool.false_and]
    rw [e3]
    exact h _ _ (fun q o _ e => F.keep q o e) (F.keep _ _ hP) hbare rfl
end
end Mine

end

open PySem PySem.W PyProof.Rows in
example : True := by
  w_top off
  trivial
open PySem PySem.W PyProof.Rows in
example {M : Model} {A : Around} {E : Value → Shared → Prop} {s : Shared} {Q : Unit → Shared → Prop} (h : Q () s) : wpAny M A (pure ()) Q E s := by
  first
    | (walk1; exact h)
    | exact wpAny_pure h
section
open PySem PySem.W PyProof.Rows PySem.Calls PyProof.Rows.LCg
set_option Elab.async false
set_option maxRecDepth 100000
set_option maxHeartbeats 4000000
set_option linter.unusedVariables false
set_option pp.deepTerms.threshold 5
set_option pp.maxSteps 2000
namespace Mine
-- HEAD
example : PySem.Challenge.rw_vk0007_01 = PySem.Challenge.rw_vk0007_01 ∧ hd.heap_39 = hd.heap_39 := by
  k_fill
  exact ⟨rfl, rfl⟩
local macro_rules | `(tactic| walk_at "getAttr ref") => `(tactic| ((with_reducible show wpAny _ _ (getAttr _ (PySem.Str.ofString "_items") _) _ _ _); k_dflt (refine items_at (by assumption) (by assumption) (SetIs.stays (by assumption) (Fr.keep (by assumption))) ?_)))
local macro_rules | `(tactic| walk_at "getMethod ref") => `(tactic| k_dflt (refine' meth_at ?f ?g ?s ?k1 ?k2 ?k3 ?k4 ?_; (case f => assumption); (case g => assumption); (case s => exact SetIs.stays (by assumption) (Fr.keep (by assumption))); (case k1 => k_is); (case k2 => k_is); (case k3 => k_is); (case k4 => decide)))
local macro_rules | `(tactic| walk_at "eval Name") => `(tactic| k_dflt (first
  | (refine' nameX_L ?hf ?hv ?_; (case hf => assumption); (case hv => first | (with_unfolding_all rfl) | (with_unfolding_all assumption)))
  | (refine name_B (by assumption) (by assumption) (by k_is) (by first | exact boot_reversed | exact boot_list | exact boot_range | exact boot_tuple | rfl) (by decide) ?_)
  | (refine name_G (by assumption) (by assumption) (by k_is) ?_)))
local macro_rules | `(tactic| walk_at "m_mem") => `(tactic| first | exact List.Mem.head _ | assumption | (apply List.Mem.tail; walk_at "m_mem"))
local macro_rules | `(tactic| walk_at "eval Name") => `(tactic| k_dflt (first
  | (refine' nm_L ?hf ?hv ?_; (case hf => assumption); (case hv => first | (with_unfolding_all rfl) | (with_unfolding_all assumption)))
  | (refine' nm_C ?hn ?hc ?hm ?hd ?_; (case hn => assumption); (case hc => rfl); (case hm => walk_at "m_mem"); (case hd => with_unfolding_all assumption))
  | (refine' nm_F ?hn ?hc ?hm ?hd ?_; (case hn => assumption); (case hc => rfl); (case hm => walk_at "m_mem"); (case hd => with_unfolding_all assumption))
  | (refine nm_B (by assumption) (by assumption) (by k_is) (by first | exact boot_reversed | exact boot_list | exact boot_range | exact boot_tuple | rfl) (by decide) ?_)
  | (refine nm_G (by assumption) (by assumption) (by k_is) ?_)))
local macro_rules | `(tactic| walk_at "getAttr ref") => `(tactic| ((with_reducible show wpAny _ _ (getAttr _ (PySem.Str.ofString "__class__") _) _ _ _); k_dflt (refine class_at (by assumption) (by assumption) (SetIs.stays (by assumption) (Fr.keep (by assumption))) ?_)))
-- BODY
structure LawD where
  name : Str
  qual : Str
  params : Arguments
  body : List Stmt
  scope : Scope
  dV : Value
  kV : Value
  doc : Value
  pm : Value
  an : Option Addr
  cdv : Value
  ct : Value
  oc : Value
  od : Option Addr
  osl : Array (Option Value)
noncomputable def lawAt (P : Params) : { d : LawD // (hd.heap_39 P).lookup 355 = some ⟨d.oc, d.od, .func (fnOf d.name d.qual d.params d.body d.scope d.dV d.kV d.doc d.pm d.an d.cdv d.ct), d.osl⟩ } :=
  ⟨⟨_, _, _, _, _, _, _, _, _, _, _, _, _, _, _⟩, by k_is⟩
/-- the law's own frame -/
noncomputable def lawEnv (P : Params) (L : Addr) : Env := envOfC (lawAt P).1.qual (lawAt P).1.scope L 355 (lawAt P).1.cdv
/-- the law's text from its k-th statement -/
noncomputable def tl (P : Params) (k : Nat) : List Stmt := (lawAt P).1.body.drop k

/-- all that stands in g -/
def pairs (g : Heap) : List (Addr × Obj) := (List.range g.objs.size).filterMap fun a => (g.get? a).map fun o => (a, o)
theorem mem_pairs {g : Heap} {a : Addr} {o : Obj} : (a, o) ∈ pairs g ↔ g.get? a = some o := by
  unfold pairs
  rw [List.mem_filterMap]
  constructor
  · rintro ⟨b, _, e⟩
    cases q : g.get? b with
    | none => rw [q] at e; cases e
    | some o' => rw [q] at e; cases e; exact q
  · intro e
    exact ⟨a, List.mem_range.mpr (Heap.lt_size e), by rw [e]; rfl⟩
section
variable {h₀ h g : Heap} {L : Addr} {m : Str → Option Value} {led : List (Addr × Obj)} {W : List Addr}
/-- what the ledger holds at its end stands -/
theorem stands (N : News h₀ L h led) (hs : pairs g <:+ led) : Heap.StaysIn g h := fun a o e => (N (a, o) (hs.subset (mem_pairs.mpr e))).1
theorem stands0 (N : News h₀ L h led) (hs : pairs g <:+ led) {a : Addr} {o : Obj} (e : g.get? a = some o) : h.get? a = some o ∧ a ≠ L ∧ h₀.get? a = none := N (a, o) (hs.subset (mem_pairs.mpr e))
/-- what stands over h₀ and off W -/
abbrev over (h₀ h : Heap) (W : List Addr) : Heap := hideAll h (W ++ olds h₀)
theorem over_get {a : Addr} {o : Obj} (e : h.get? a = some o) (f : h₀.get? a = none) (hW : a ∉ W) : (over h₀ h W).get? a = some o := hideAll_get _ e fun q => by
  rcases List.mem_append.mp q with q | q
  · exact hW q
  · obtain ⟨o', e'⟩ := mem_olds.mp q
    rw [f] at e'; cases e'
theorem over_of {a : Addr} {o : Obj} (e : (over h₀ h W).get? a = some o) : h.get? a = some o ∧ h₀.get? a = none ∧ a ∉ W := by
  have e' := of_hideAll _ e
  have hW : a ∉ W := fun q => by rw [hideAll_none _ (List.mem_append_left _ q)] at e; cases e
  refine ⟨e', ?_, hW⟩
  cases q : h₀.get? a with
  | none => rfl
  | some o' => rw [hideAll_none _ (List.mem_append_right _ (mem_olds.mpr ⟨_, q⟩))] at e; cases e
theorem over_none {a : Addr} (hW : a ∈ W) : (over h₀ h W).get? a = none := hideAll_none _ (List.mem_append_left _ hW)
/-- the ledger, anew: some of its objects, and all that stands over h₀ -/
theorem anew (N : News h₀ L h led) (hL : L ∈ W) {led' : List (Addr × Obj)} (hs : ∀ p ∈ led', p ∈ led) : News h₀ L h (led' ++ pairs (over h₀ h W)) := fun p hp => by
  rcases List.mem_append.mp hp with hp | hp
  · exact N p (hs p hp)
  · obtain ⟨a, o⟩ := p
    have z := over_of (mem_pairs.mp hp)
    exact ⟨z.1, fun q => by
      change a = L at q
      rw [q] at z; exact z.2.2 hL, z.2.1⟩
theorem over_stays (N : News h₀ L h led) (hs : pairs g <:+ led) (hg : ∀ a ∈ W, g.get? a = none) : Heap.StaysIn g (over h₀ h W) := fun a o e =>
  let z := stands0 N hs e
  over_get z.1 z.2.2 fun q => by rw [hg a q] at e; cases e
end
end Mine

end

open PySem PySem.W PyProof.Rows in
example : True := by
  w_top off
  trivial
open PySem PySem.W PyProof.Rows in
example {M : Model} {A : Around} {E : Value → Shared → Prop} {s : Shared} {Q : Unit → Shared → Prop} (h : Q () s) : wpAny M A (pure ()) Q E s := by
  first
    | (walk1; exact h)
    | exact wpAny_pure h
section
open PySem PySem.W PyProof.Rows PySem.Calls PyProof.Rows.LCg
set_option Elab.async false
set_option maxRecDepth 100000
set_option maxHeartbeats 4000000
set_option linter.unusedVariables false
set_option pp.deepTerms.threshold 5
set_option pp.maxSteps 2000
namespace Mine
-- HEAD
example : PySem.Challenge.rw_vk0007_01 = PySem.Challenge.rw_vk0007_01 ∧ hd.heap_39 = hd.heap_39 := by
  k_fill
  exact ⟨rfl, rfl⟩
local macro_rules | `(tactic| walk_at "getAttr ref") => `(tactic| ((with_reducible show wpAny _ _ (getAttr _ (PySem.Str.ofString "_items") _) _ _ _); k_dflt (refine items_at (by assumption) (by assumption) (SetIs.stays (by assumption) (Fr.keep (by assumption))) ?_)))
local macro_rules | `(tactic| walk_at "getMethod ref") => `(tactic| k_dflt (refine' meth_at ?f ?g ?s ?k1 ?k2 ?k3 ?k4 ?_; (case f => assumption); (case g => assumption); (case s => exact SetIs.stays (by assumption) (Fr.keep (by assumption))); (case k1 => k_is); (case k2 => k_is); (case k3 => k_is); (case k4 => decide)))
local macro_rules | `(tactic| walk_at "eval Name") => `(tactic| k_dflt (first
  | (refine' nameX_L ?hf ?hv ?_; (case hf => assumption); (case hv => first | (with_unfolding_all rfl) | (with_unfolding_all assumption)))
  | (refine name_B (by assumption) (by assumption) (by k_is) (by first | exact boot_reversed | exact boot_list | exact boot_range | exact boot_tuple | rfl) (by decide) ?_)
  | (refine name_G (by assumption) (by assumption) (by k_is) ?_)))
local macro_rules | `(tactic| walk_at "m_mem") => `(tactic| first | exact List.Mem.head _ | assumption | (apply List.Mem.tail; walk_at "m_mem"))
local macro_rules | `(tactic| walk_at "eval Name") => `(tactic| k_dflt (first
  | (refine' nm_L ?hf ?hv ?_; (case hf => assumption); (case hv => first | (with_unfolding_all rfl) | (with_unfolding_all assumption)))
  | (refine' nm_C ?hn ?hc ?hm ?hd ?_; (case hn => assumption); (case hc => rfl); (case hm => walk_at "m_mem"); (case hd => with_unfolding_all assumption))
  | (refine' nm_F ?hn ?hc ?hm ?hd ?_; (case hn => assumption); (case hc => rfl); (case hm => walk_at "m_mem"); (case hd => with_unfolding_all assumption))
  | (refine nm_B (by assumption) (by assumption) (by k_is) (by first | exact boot_reversed | exact boot_list | exact boot_range | exact boot_tuple | rfl) (by decide) ?_)
  | (refine nm_G (by assumption) (by assumption) (by k_is) ?_)))
local macro_rules | `(tactic| walk_at "getAttr ref") => `(tactic| ((with_reducible show wpAny _ _ (getAttr _ (PySem.Str.ofString "__class__") _) _ _ _); k_dflt (refine class_at (by assumption) (by assumption) (SetIs.stays (by assumption) (Fr.keep (by assumption))) ?_)))
-- BODY
section
variable {w : World} {A : Around} {s : Shared} {mg mb : Str → Option Value} {B : Heap} {Q : Value → Shared → Prop} {E : Value → Shared → Prop} {h₀ : Heap} {L : Addr} {m : Str → Option Value} {x l : Addr} {vs : Array Value}
theorem rev_set (FF : Fr h₀ L s.heap m) (G : Gr w mg mb B) (hB : Heap.StaysIn B h₀) (R : Rm A 4) (S : SetIs s.heap x l) (hl : s.heap.IsList l vs)
    (h : ∀ h' tk I, Heap.StaysIn s.heap h' → h'.get? I = some (revObj l ((vs.size : Int) - 1)) → s.heap.get? I = none → Q (.ref I) { s with heap := h', toks := tk }) :
    wpAny (model PySem.Challenge.rw_vk0007_01.row.prog w) A (call (.type "reversed") [.ref x]) Q E s := by
  have hs : findIn (hd.heap_39 w.params) (.ref 306) "__reversed__" = some (some (.ref 65)) := by k_is
  have hf : typeIn (hd.heap_39 w.params) (.ref 65) = some (.type "function") := by k_is
  obtain ⟨dx, hsh, tk, n, h1, h2⟩ := id S
  have I : InstAt s.heap x (instObj 306 dx) 306 (some (itemsDict hsh tk l n)) := ⟨h1, rfl, rfl, h2⟩
  have X := (G.keeps (up FF hB)).K
  refine callType_other (U := "list_reverseiterator") (Q₁ := fun obj s₁ => ∃ h' tk I, obj = .ref I ∧ s₁ = { s with heap := h', toks := tk } ∧ Heap.StaysIn s.heap h' ∧ h'.get? I = some (revObj l ((vs.size : Int) - 1)) ∧ s.heap.get? I = none) (by decide +kernel) F.create_reversed ⟨_, _, F.mro_reversed⟩ F.made_reversed F.sub_lri_reversed (F.typeCall_reversed_1 _) ?_ ?_
  · refine codeAny_of_tree ?_
    show wpAny _ A.in1.in1 (do checkBuiltinCall "reversed.__new__" ⟨[.type "reversed", .ref x], []⟩; again (.builtin "reversed.__new__" ⟨[.type "reversed", .ref x], []⟩)) _ _ s
    refine wpAny_bind (wpAny_of_eq (F.newCall_reversed_1 _) (wpAny_pure ⟨plainId_quiet F.plain_reversed_new _, codeAny_builtin F.entry_reversed_new ?_⟩))
    rw [Around.under_plainId F.plain_reversed_new _]
    unfold Builtin.«reversed.__new__»
    refine wpAny_bind (wpAny_of_eq (newClass_reversed _) ?_)
    try dsimp only
    refine wpAny_bind (wpAny_of_eq (a := ()) (by first | rfl | kernel_rfl) ?_)
    refine wpAny_bind (wpAny_of_eq (a := ()) (by first | rfl | kernel_rfl) ?_)
    try dsimp only
    refine wpAny_bind (m := specialOf (.ref x) (Str.ofString "__reversed__")) (wpAny_bind (I.type.here ((looks_findIn X hs).here ?_)))
    try dsimp only
    refine wpAny_bind ((bind_fn X (.ref x) hf).here ?_)
    try dsimp only
    first
    | rw [if_neg (show ¬ ((Value.ref 65 == Value.none) = true) from Bool.false_ne_true)]
    | (show wpAny _ _ (if (Value.ref 65 == Value.none) = true then _ else _) _ _ _; rw [if_neg (show ¬ ((Value.ref 65 == Value.none) = true) from Bool.false_ne_true)])
    refine wpAny_bind (wpAny_rule ?_)
    refine wpAny_bind (m := runValue (.call (.ref 65) ⟨[.ref x], []⟩)) (show wpAny _ _ (call (.ref 65) [.ref x]) _ _ _ from rev_spec (G.keeps hB) FF.keep (R.in1.in1.less (by omega)) S hl fun h' tk I k e f => ?_)
    first
    | exact wpAny_pure ⟨h', tk, I, rfl, rfl, k, e, f⟩
    | exact wpAny_bind (wpAny_pure (wpAny_pure ⟨h', tk, I, rfl, rfl, k, e, f⟩))
  · rintro obj s₁ ⟨h', tk, I, rfl, rfl, k, e, f⟩
    exact ⟨⟨_, e, rfl⟩, h _ _ _ k e f⟩
end
section
variable {w : World} {A : Around} {s : Shared} {mg mb : Str → Option Value} {B : Heap} {Q : Value → Shared → Prop} {E : Value → Shared → Prop} {h₀ : Heap} {L : Addr} {m : Str → Option Value}
theorem ne_set {x l y ly : Addr} {vs ws : Array Value} {ds es : List Nat} {tx : Bool} (F : Fr h₀ L s.heap m)
    (G : Gr w mg mb B) (hB : Heap.StaysIn B h₀) (R : Rm A 2) (S : SetIs s.heap x l) (hl : s.heap.IsList l vs) (hT : Ths tx ds vs.toList) (S' : SetIs s.heap y ly) (hl' : s.heap.IsList ly ws) (hT' : Ths tx es ws.toList)
    (h : ∀ h' tk, Heap.StaysIn s.heap h' → Q (.bool (!(ds == es))) { s with heap := h', toks := tk }) :
    wpAny (model PySem.Challenge.rw_vk0007_01.row.prog w) A (compareOp .NotEq (.ref x) (.ref y)) Q E s := by
  obtain ⟨dx, hsh, tk, n, h1, h2⟩ := id S
  have I : InstAt s.heap x (instObj 306 dx) 306 (some (itemsDict hsh tk l n)) := ⟨h1, rfl, rfl, h2⟩
  obtain ⟨dy, hshy, tky, ny, g1, g2⟩ := id S'
  have I' : InstAt s.heap y (instObj 306 dy) 306 (some (itemsDict hshy tky ly ny)) := ⟨g1, rfl, rfl, g2⟩
  have c1 : notFirst (hd.heap_39 w.params) 306 (.ref 306) = true := by k_is
  have c2 : findIn (hd.heap_39 w.params) (.ref 306) (cmpInfo .NotEq).2.1 = some (some (.ref 86)) := by k_is
  have c3 : isFn (hd.heap_39 w.params) (.ref 86) = true := by k_is
  exact cmp_ofNotEq (cmp_K R.units F (G.keeps hB).K I I'.type c1 c2 c3 (ne_spec G (up F hB) R S hl hT S' hl' hT' fun h' tk k => h h' tk k))
theorem eq_set_list {x l b : Addr} {vs ws : Array Value} {ds es : List Nat} {tx : Bool} {bm : Addr} {obm : Obj} (F : Fr h₀ L s.heap m)
    (G : Gr w mg mb B) (hB : Heap.StaysIn B h₀) (hPB : B.get? 74 = none) (hP : s.heap.get? 74 = some { cls := .none, data := .fields #[] }) (MB : BMod B mainGlobals mg bm obm) (hbare : AllBare s.gens)
    (R : Rm A 6) (S : SetIs s.heap x l) (hl : s.heap.IsList l vs) (hT : Ths tx ds vs.toList) (hs : ds.Pairwise (· < ·)) (hl' : s.heap.IsList b ws) (hT' : Ths tx es ws.toList) (hlen' : es.length < 900)
    (h : ∀ s' ps, Off [74] s.heap s'.heap → s'.heap.get? 74 = some { cls := .none, data := .fields ps } → AllBare s'.gens → s'.os = s.os → Q (.bool ((es.length == ds.length) && es.all fun r => ds.contains r)) s') :
    wpAny (model PySem.Challenge.rw_vk0007_01.row.prog w) A (compareOp .Eq (.ref x) (.ref b)) Q E s := by
  obtain ⟨dx, hsh, tk, n, h1, h2⟩ := id S
  have I : InstAt s.heap x (instObj 306 dx) 306 (some (itemsDict hsh tk l n)) := ⟨h1, rfl, rfl, h2⟩
  have c1 : notFirst (hd.heap_39 w.params) 306 (.type "list") = true := by k_is
  have c2 : findIn (hd.heap_39 w.params) (.ref 306) (cmpInfo .Eq).2.1 = some (some (.ref 79)) := by k_is
  have c3 : isFn (hd.heap_39 w.params) (.ref 79) = true := by k_is
  obtain ⟨o, e1, e2, e3⟩ := id hl'
  have ty : Looks (model PySem.Challenge.rw_vk0007_01.row.prog w) s.heap (typeOf (.ref b)) (.type "list") := fun A Q E s k q => wpAny_typeOf ⟨o, k _ _ e1, e2⟩ q
  exact cmp_ofEq (cmp_K R.units F (G.keeps hB).K I ty c1 c2 c3 (eq_spec (ob := o) G (up F hB) hPB hP MB hbare R S hl hT hs hl' hT' hlen' fun s' ps k e a b => h s' ps k e a b))
end
section
variable {w : World} {A : Around} {s : Shared} {mg mb : Str → Option Value} {B : Heap} {Q : Value → Shared → Prop} {E : Value → Shared → Prop} {h₀ : Heap} {L : Addr} {m : Str → Option Value} {value slice : PySem.Expr}
theorem sub_slice {x l sl : Addr} {vs : Array Value} {vl vu : Value} {lo hi : Option Int} {ds : List Nat} {tx : Bool}
    (F : Fr h₀ L s.heap m) (G : Gr w mg mb B) (hB : Heap.StaysIn B h₀) (R : Rm A 4) (S : SetIs s.heap x l) (hl : s.heap.IsList l vs) (hT : Ths tx ds vs.toList) (hlen : vs.size < 1000) (hsl : s.heap.IsSliceOf sl vl vu .none) (pl : IsPart vl lo) (pu : IsPart vu hi)
    (h : ∀ h' tk D ws c, Heap.StaysIn s.heap h' → s.heap.get? D = none → h'.get? D = some (listOf ws c) → Ths tx (pickN ds lo hi) ws.toList → Q (.ref D) { s with heap := h', toks := tk })
    (hq : subscripted slice true (.ref x) (.ref sl) = operate [.ref sl, .ref x] (getItem (.ref x) (.ref sl)) := by with_unfolding_all rfl) :
    wpAny (model PySem.Challenge.rw_vk0007_01.row.prog w) A (subscriptTail value slice (.ref x) (.ref sl)) Q E s := by
  obtain ⟨dx, hsh, tk, n, h1, h2⟩ := id S
  have I : InstAt s.heap x (instObj 306 dx) 306 (some (itemsDict hsh tk l n)) := ⟨h1, rfl, rfl, h2⟩
  have c1 : findIn (hd.heap_39 w.params) (.ref 306) "__getitem__" = some (some (.ref 51)) := by k_is
  have c2 : fnIn (hd.heap_39 w.params) 51 = true := by k_is
  have c3 : isFn (hd.heap_39 w.params) (.ref 51) = true := by k_is
  have X := (G.keeps (up F hB)).K
  have c4 : noSeq (hd.heap_39 w.params) 306 = true := by k_is
  unfold subscriptTail getitemInPython
  refine wpAny_bind (wpAny_bind (wpAny_bind (I.type.here ((looks_findIn X c1).here ?_))))
  dsimp only
  refine with_obj (K := hd.heap_39 w.params) (f := 51) (by k_is) fun e => ?_
  refine wpAny_bind (wpAny_load (X _ _ e) (wpAny_pure ?_))
  dsimp only
  rw [hq]
  refine wpAny_bind (wpAny_operate' (getItem_K F (G.keeps hB).K I c4 c1 c3 (getslice_spec G (up F hB) (R.less (by omega)) S hl hT hlen hsl pl pu fun h' tk D ws c k f e t => ?_)))
  exact wpAny_bind (wpAny_letTemporaryGo (wpAny_pure (h h' tk D ws c k f e t)))
theorem sub_int {x l : Addr} {vs : Array Value} {k : Int} {t : Tok} {v : Value}
    (F : Fr h₀ L s.heap m) (G : Gr w mg mb B) (hB : Heap.StaysIn B h₀) (R : Rm A 4) (S : SetIs s.heap x l) (hl : s.heap.IsList l vs) (hlen : vs.size < 1000) (h0 : -(vs.size : Int) ≤ k) (h1 : k < vs.size) (hv : vs[(if k < 0 then k + vs.size else k).toNat]? = some v)
    (h : ∀ h' tk, Heap.StaysIn s.heap h' → Q v { s with heap := h', toks := tk })
    (hq : subscripted slice true (.ref x) (.int k t) = runValue (.builtin "lifetime.subscript" ⟨[.ref x, .int k t], []⟩) := by with_unfolding_all rfl) :
    wpAny (model PySem.Challenge.rw_vk0007_01.row.prog w) A (subscriptTail value slice (.ref x) (.int k t)) Q E s := by
  obtain ⟨dx, hsh, tk, n, e1, e2⟩ := id S
  have I : InstAt s.heap x (instObj 306 dx) 306 (some (itemsDict hsh tk l n)) := ⟨e1, rfl, rfl, e2⟩
  have c1 : findIn (hd.heap_39 w.params) (.ref 306) "__getitem__" = some (some (.ref 51)) := by k_is
  have c2 : fnIn (hd.heap_39 w.params) 51 = true := by k_is
  have c3 : isFn (hd.heap_39 w.params) (.ref 51) = true := by k_is
  exact sub_K F (G.keeps hB).K I c1 c2 c3 (getitem_spec G (up F hB) (R.in1.less (by omega)) S hl hlen h0 h1 hv h) hq
end
section
variable {w : World} {A : Around} {s : Shared} {mg mb : Str → Option Value} {B : Heap} {Q : Value → Shared → Prop} {E : Value → Shared → Prop} {h₀ : Heap} {L : Addr} {m : Str → Option Value}
theorem repr_set {x l : Addr} {vs : Array Value} {ds : List Nat} {tx : Bool}
    (F : Fr h₀ L s.heap m) (G : Gr w mg mb B) (hB : Heap.StaysIn B h₀) (R : Rm A 4) (hg : A.guards = some []) (S : SetIs s.heap x l) (hl : s.heap.IsList l vs) (hT : Ths tx ds vs.toList) (hlen : ds.length < 100)
    (h : ∀ h' tk u, Heap.StaysIn s.heap h' → Q (.str (PySem.Str.ofString "SortedSet(" ++ txtOf tx ds ++ PySem.Str.ofString ")") u) { s with heap := h', toks := tk }) :
    wpAny (model PySem.Challenge.rw_vk0007_01.row.prog w) A (call (.builtin "repr") [.ref x]) Q E s := by
  obtain ⟨dx, hsh, tk, n, h1, h2⟩ := id S
  have I : InstAt s.heap x (instObj 306 dx) 306 (some (itemsDict hsh tk l n)) := ⟨h1, rfl, rfl, h2⟩
  have c1 : findIn (hd.heap_39 w.params) (.ref 306) "__repr__" = some (some (.ref 72)) := by k_is
  have c2 : isFn (hd.heap_39 w.params) (.ref 72) = true := by k_is
  exact repr_K R.in1.units F (G.keeps hB).K I c1 c2 (repr_spec G (up F hB) (R.in1.less (by omega)) hg S hl hT hlen fun h' tk u k => h h' tk u k)
theorem repr_list {l : Addr} {vs : Array Value} {ds : List Nat} {tx : Bool} {prog : Program}
    (R : Rm A 4) (hg : A.guards = some []) (hl : s.heap.IsList l vs) (hT : Ths tx ds vs.toList) (hlen : ds.length < 100)
    (h : ∀ h' tk u, Heap.StaysIn s.heap h' → Q (.str (txtOf tx ds) u) { s with heap := h', toks := tk }) :
    wpAny (model prog w) A (call (.builtin "repr") [.ref l]) Q E s := by
  have h9 := hT.lt
  obtain ⟨m1, m2, m3⟩ := list_meta (tx := tx) h9
  refine repr_of_reads' (list_reads hl hT) (by simpa [PyData.showable] using m1) (by simp [PyData.hasDict, m2]) hg (by have := R.u; simp only [PyData.depth, m3]; omega) (fun _ _ e => e) (fun h' u tk k => h h' tk u k) (by have := txtOf_len (tx := tx) h9; unfold txtOf at this; rw [sizeLine_eq]; omega)
end
end Mine

end

open PySem PySem.W PyProof.Rows in
example : True := by
  w_top off
  trivial
open PySem PySem.W PyProof.Rows in
example {M : Model} {A : Around} {E : Value → Shared → Prop} {s : Shared} {Q : Unit → Shared → Prop} (h : Q () s) : wpAny M A (pure ()) Q E s := by
  first
    | (walk1; exact h)
    | exact wpAny_pure h
section
open PySem PySem.W PyProof.Rows PySem.Calls PyProof.Rows.LCg
set_option Elab.async false
set_option maxRecDepth 100000
set_option maxHeartbeats 4000000
set_option linter.unusedVariables false
set_option pp.deepTerms.threshold 5
set_option pp.maxSteps 2000
namespace Mine
-- HEAD
example : PySem.Challenge.rw_vk0007_01 = PySem.Challenge.rw_vk0007_01 ∧ hd.heap_39 = hd.heap_39 := by
  k_fill
  exact ⟨rfl, rfl⟩
local macro_rules | `(tactic| walk_at "getAttr ref") => `(tactic| ((with_reducible show wpAny _ _ (getAttr _ (PySem.Str.ofString "_items") _) _ _ _); k_dflt (refine items_at (by assumption) (by assumption) (SetIs.stays (by assumption) (Fr.keep (by assumption))) ?_)))
local macro_rules | `(tactic| walk_at "getMethod ref") => `(tactic| k_dflt (refine' meth_at ?f ?g ?s ?k1 ?k2 ?k3 ?k4 ?_; (case f => assumption); (case g => assumption); (case s => first | assumption | exact SetIs.stays (by assumption) (Fr.keep (by assumption))); (case k1 => k_is); (case k2 => k_is); (case k3 => k_is); (case k4 => decide)))
local macro_rules | `(tactic| walk_at "eval Name") => `(tactic| k_dflt (first
  | (refine' nameX_L ?hf ?hv ?_; (case hf => assumption); (case hv => first | (with_unfolding_all rfl) | (with_unfolding_all assumption)))
  | (refine name_B (by assumption) (by assumption) (by k_is) (by first | exact boot_reversed | exact boot_list | exact boot_range | exact boot_tuple | rfl) (by decide) ?_)
  | (refine name_G (by assumption) (by assumption) (by k_is) ?_)))
local macro_rules | `(tactic| walk_at "m_mem") => `(tactic| first | exact List.Mem.head _ | assumption | (apply List.Mem.tail; walk_at "m_mem"))
local macro_rules | `(tactic| walk_at "eval Name") => `(tactic| k_dflt (first
  | (refine' nm_L ?hf ?hv ?_; (case hf => assumption); (case hv => first | (with_unfolding_all rfl) | (with_unfolding_all assumption)))
  | (refine' nm_C ?hn ?hc ?hm ?hd ?_; (case hn => assumption); (case hc => rfl); (case hm => walk_at "m_mem"); (case hd => with_unfolding_all assumption))
  | (refine' nm_F ?hn ?hc ?hm ?hd ?_; (case hn => assumption); (case hc => rfl); (case hm => walk_at "m_mem"); (case hd => with_unfolding_all assumption))
  | (refine nm_B (by assumption) (by assumption) (by k_is) (by first | exact boot_reversed | exact boot_list | exact boot_range | exact boot_tuple | rfl) (by decide) ?_)
  | (refine nm_G (by assumption) (by assumption) (by k_is) ?_)))
local macro_rules | `(tactic| walk_at "getAttr ref") => `(tactic| ((with_reducible show wpAny _ _ (getAttr _ (PySem.Str.ofString "__class__") _) _ _ _); k_dflt (refine class_at (by assumption) (by assumption) (SetIs.stays (by assumption) (Fr.keep (by assumption))) ?_)))
local macro_rules | `(tactic| walk_at "m_suf") => `(tactic| repeat' (first | exact suf_self _ | assumption | apply suf_cons))
local macro_rules | `(tactic| walk_at "eval ListComp") => `(tactic| k_dflt (refine start_comp _ (by intro _; rfl) (by rfl) rfl (by decide) ?_))
local macro_rules | `(tactic| walk_at "exec Assign cons ListComp") => `(tactic| k_dflt (refine wpAny_Assign_Name ?_))
-- BODY
abbrev tabObj (ps : Array Value) : Obj := { cls := .none, data := .fields ps }
/-- the bag lies apart from the cells and the table -/
structure Ap (L b : Addr) : Prop where
  ne : ∀ n, n ≤ 7 → L + n ≠ b
  tab : b ≠ 74
/-- the places of the law's own that change -/
abbrev Wl (L b : Addr) : List Addr := [L, L + 1, L + 2, L + 3, L + 4, L + 5, L + 6, L + 7, b, 74]
abbrev led0 (L b : Addr) (o1 o2 o3 o4 o5 o6 o7 : Obj) (x : Int) (t : Tok) (ep : Nat) (ps : Array Value) (rest : List (Addr × Obj)) : List (Addr × Obj) :=
  (L + 1, o1) :: (L + 2, o2) :: (L + 3, o3) :: (L + 4, o4) :: (L + 5, o5) :: (L + 6, o6) :: (L + 7, o7) :: (b, listOf #[.int x t] ep) :: (74, tabObj ps) :: rest
/-- the law's frame between two statements: its seven cells, the bag, and all that stands besides -/
structure St (h₀ : Heap) (L b : Addr) (g : Heap) (s₁ : Shared) (ps : Array Value) (v1 v2 v3 v4 v5 v6 v7 : Option Value) (s : Shared) (m : Str → Option Value) : Prop where
  F : Fr h₀ L s.heap m
  N : ∃ o1 o2 o3 o4 o5 o6 o7 x t ep, News h₀ L s.heap (led0 L b o1 o2 o3 o4 o5 o6 o7 x t ep ps (pairs g)) ∧
    o1.data = .cell v1 ∧ o2.data = .cell v2 ∧ o3.data = .cell v3 ∧ o4.data = .cell v4 ∧ o5.data = .cell v5 ∧ o6.data = .cell v6 ∧ o7.data = .cell v7
  apart : ∀ a ∈ Wl L b, g.get? a = none
  lt : Ap L b
  low : 74 < L
  bare : AllBare s.gens
  os : s.os = s₁.os
section
variable {h₀ g h : Heap} {L b : Addr} {s₁ s s' : Shared} {v1 v2 v3 v4 v5 v6 v7 : Option Value} {m m' : Str → Option Value} {led : List (Addr × Obj)} {o1 o2 o3 o4 o5 o6 o7 : Obj} {x : Int} {t : Tok} {ep : Nat} {ps : Array Value}
theorem St.of (F : Fr h₀ L s'.heap m') (N : News h₀ L s'.heap led) (hs : ∀ p ∈ led0 L b o1 o2 o3 o4 o5 o6 o7 x t ep ps [], p ∈ led)
    (d : o1.data = .cell v1 ∧ o2.data = .cell v2 ∧ o3.data = .cell v3 ∧ o4.data = .cell v4 ∧ o5.data = .cell v5 ∧ o6.data = .cell v6 ∧ o7.data = .cell v7)
    (lt : Ap L b) (low : 74 < L) (bare : AllBare s'.gens) (os : s'.os = s₁.os) : St h₀ L b (over h₀ s'.heap (Wl L b)) s₁ ps v1 v2 v3 v4 v5 v6 v7 s' m' :=
  ⟨F, ⟨o1, o2, o3, o4, o5, o6, o7, x, t, ep, anew N (.head _) hs, d⟩, fun _ ha => over_none ha, lt, low, bare, os⟩
theorem led_mem {rest : List (Addr × Obj)} : ∀ p ∈ led0 L b o1 o2 o3 o4 o5 o6 o7 x t ep ps [], p ∈ led0 L b o1 o2 o3 o4 o5 o6 o7 x t ep ps rest := fun p hp => by
  have : led0 L b o1 o2 o3 o4 o5 o6 o7 x t ep ps rest = led0 L b o1 o2 o3 o4 o5 o6 o7 x t ep ps [] ++ rest := rfl
  rw [this]; exact List.mem_append_left _ hp
theorem led_suf {rest : List (Addr × Obj)} : rest <:+ led0 L b o1 o2 o3 o4 o5 o6 o7 x t ep ps rest := ⟨led0 L b o1 o2 o3 o4 o5 o6 o7 x t ep ps [], rfl⟩
/-- the frame, anew, over all that stands now -/
theorem St.re (F : Fr h₀ L s'.heap m') (N : News h₀ L s'.heap led) (hs : led0 L b o1 o2 o3 o4 o5 o6 o7 x t ep ps (pairs g) <:+ led)
    (d : o1.data = .cell v1 ∧ o2.data = .cell v2 ∧ o3.data = .cell v3 ∧ o4.data = .cell v4 ∧ o5.data = .cell v5 ∧ o6.data = .cell v6 ∧ o7.data = .cell v7)
    (ap : ∀ a ∈ Wl L b, g.get? a = none) (lt : Ap L b) (low : 74 < L) (bare : AllBare s'.gens) (os : s'.os = s₁.os) :
    St h₀ L b (over h₀ s'.heap (Wl L b)) s₁ ps v1 v2 v3 v4 v5 v6 v7 s' m' ∧ Heap.StaysIn g (over h₀ s'.heap (Wl L b)) :=
  ⟨St.of F N (fun p hp => hs.subset (led_mem p hp)) d lt low bare os, over_stays N (led_suf.trans hs) ap⟩
theorem led_tab {ps' : Array Value} (N : News h₀ L h (led0 L b o1 o2 o3 o4 o5 o6 o7 x t ep ps (pairs g))) {h' : Heap} (k : Off [74] h h') (e : h'.get? 74 = some (tabObj ps')) (ap : ∀ a ∈ Wl L b, g.get? a = none) (lt : Ap L b) (low : 74 < L) :
    News h₀ L h' (led0 L b o1 o2 o3 o4 o5 o6 o7 x t ep ps' (pairs g)) :=
  news_put (pre := [(L + 1, o1), (L + 2, o2), (L + 3, o3), (L + 4, o4), (L + 5, o5), (L + 6, o6), (L + 7, o7), (b, listOf #[.int x t] ep)]) (post := pairs g) N k e (by
    have q : ∀ n, L + n ≠ 74 := fun n => Nat.ne_of_gt (Nat.lt_of_lt_of_le low (Nat.le_add_right _ _))
    simp only [List.forall_mem_cons]
    exact ⟨q 1, q 2, q 3, q 4, q 5, q 6, q 7, lt.tab, fun _ h => nomatch h⟩) (fun p hp q => by
    obtain ⟨a, o⟩ := p
    have := mem_pairs.mp hp
    change a = 74 at q
    rw [q, ap 74 (.tail _ (.tail _ (.tail _ (.tail _ (.tail _ (.tail _ (.tail _ (.tail _ (.tail _ (.head _))))))))))] at this
    cases this)
theorem led_bag {x' : Int} {t' : Tok} {rest : List (Addr × Obj)} (N : News h₀ L h (led0 L b o1 o2 o3 o4 o5 o6 o7 x t ep ps rest)) {h' : Heap} (k : Off [b] h h') (e : h'.get? b = some (listOf #[.int x' t'] ep)) (hr : ∀ p ∈ rest, p.1 ≠ b) (lt : Ap L b) (low : 74 < L) :
    News h₀ L h' (led0 L b o1 o2 o3 o4 o5 o6 o7 x' t' ep ps rest) :=
  news_put (pre := [(L + 1, o1), (L + 2, o2), (L + 3, o3), (L + 4, o4), (L + 5, o5), (L + 6, o6), (L + 7, o7)]) (post := (74, tabObj ps) :: rest) N k e (by
    have q := lt.ne
    simp only [List.forall_mem_cons]
    exact ⟨q 1 (by decide), q 2 (by decide), q 3 (by decide), q 4 (by decide), q 5 (by decide), q 6 (by decide), q 7 (by decide), fun _ h => nomatch h⟩) (fun p hp => by
    rcases List.mem_cons.mp hp with rfl | hp
    · exact lt.tab.symm
    · exact hr p hp)
theorem pairs_ne {a : Addr} (f : g.get? a = none) : ∀ p ∈ pairs g, p.1 ≠ a := fun p hp q => by
  obtain ⟨c, o⟩ := p
  have e := mem_pairs.mp hp
  change c = a at q
  rw [q, f] at e; cases e
theorem St.at (T : St h₀ L b g s₁ ps v1 v2 v3 v4 v5 v6 v7 s m) {a : Addr} (ha : a ∈ Wl L b) : ∃ o, s.heap.get? a = some o := by
  obtain ⟨F, ⟨o1, o2, o3, o4, o5, o6, o7, x, t, ep, N, _⟩, _⟩ := T
  obtain ⟨oL, hL, _⟩ := ns_obj F.ns
  rcases List.mem_cons.mp ha with rfl | ha
  · exact ⟨_, hL⟩
  · have key : ∀ a ∈ [L + 1, L + 2, L + 3, L + 4, L + 5, L + 6, L + 7, b, 74], ∃ p ∈ led0 L b o1 o2 o3 o4 o5 o6 o7 x t ep ps (pairs g), p.1 = a := by
      simp only [List.forall_mem_cons]
      exact ⟨⟨_, .head _, rfl⟩, ⟨_, .tail _ (.head _), rfl⟩, ⟨_, .tail _ (.tail _ (.head _)), rfl⟩, ⟨_, .tail _ (.tail _ (.tail _ (.head _))), rfl⟩, ⟨_, .tail _ (.tail _ (.tail _ (.tail _ (.head _)))), rfl⟩,
        ⟨_, .tail _ (.tail _ (.tail _ (.tail _ (.tail _ (.head _))))), rfl⟩, ⟨_, .tail _ (.tail _ (.tail _ (.tail _ (.tail _ (.tail _ (.head _)))))), rfl⟩, ⟨_, .tail _ (.tail _ (.tail _ (.tail _ (.tail _ (.tail _ (.tail _ (.head _))))))), rfl⟩,
        ⟨_, .tail _ (.tail _ (.tail _ (.tail _ (.tail _ (.tail _ (.tail _ (.tail _ (.head _)))))))), rfl⟩, fun _ h => nomatch h⟩
    have := key a ha
    obtain ⟨p, hp, rfl⟩ := this
    exact ⟨_, (N p hp).1⟩
theorem St.fresh (T : St h₀ L b g s₁ ps v1 v2 v3 v4 v5 v6 v7 s m) {a : Addr} (f : s.heap.get? a = none) : a ∉ Wl L b := fun ha => by
  obtain ⟨o, e⟩ := T.at ha
  rw [f] at e; cases e
end
theorem news_fresh {h₀ h : Heap} {L a : Addr} {led : List (Addr × Obj)} (N : News h₀ L h led) (f : h.get? a = none) : ∀ p ∈ led, p.1 ∉ [a] := fun p hp q => by
  have e := (N p hp).1
  rw [List.mem_singleton.mp q, f] at e; cases e
theorem news_more {h₀ h h' : Heap} {L a : Addr} {o : Obj} {m : Str → Option Value} {led : List (Addr × Obj)} (F : Fr h₀ L h m) (N : News h₀ L h' led) (f : h.get? a = none) (e : h'.get? a = some o) : News h₀ L h' ((a, o) :: led) := fun p hp => by
  rcases List.mem_cons.mp hp with rfl | hp
  · refine ⟨e, fun q => ?_, none_of F.keep f⟩
    obtain ⟨oL, hL, _⟩ := ns_obj F.ns
    change a = L at q
    rw [q, hL] at f; cases f
  · exact N p hp
theorem rev_l {prog : Program} {w : World} {A : Around} {E : Value → Shared → Prop} {s : Shared} {h₀ : Heap} {L l : Addr} {m : Str → Option Value} {news : List (Addr × Obj)} {value slice : PySem.Expr} {its : Array Value} {vk : Value} {ops : List Value} {Q : Value → Shared → Prop}
    (F : Fr h₀ L s.heap m) (N : News h₀ L s.heap news) (hl : s.heap.IsList l its) (pk : IsPart vk (some (-1))) (hz : its.size ≤ 1000)
    (h : ∀ D h', Fr h₀ L h' m → News h₀ L h' ((D, listOf its.toList.reverse.toArray 0) :: news) → (∀ p ∈ news, p.1 < D) → Q (.ref D) { s with heap := h' })
    (hs : subscripted slice false (.ref l) (.ref s.heap.objs.size) = operate ops (getItem (.ref l) (.ref s.heap.objs.size)) := by with_unfolding_all rfl) (ht : ∀ r, letTemporaryGo value (.ref l) r = pure () := by intro _; with_unfolding_all rfl) :
    wpAny (model prog w) A (subscriptTail value slice (.ref l) (.ref s.heap.objs.size)) Q E { s with heap := s.heap.push { cls := .type "slice", data := .fields #[.none, .none, vk] } } :=
  krv_lit F N hl pk rfl h hs ht (by rw [sizeLine_eq]; omega)
theorem suf_self {α : Type} (l : List α) : l <:+ l := List.suffix_refl l
theorem suf_cons {α : Type} {l k : List α} (a : α) (h : l <:+ k) : l <:+ a :: k := h.trans (List.suffix_cons a k)
end Mine

end

open PySem PySem.W PyProof.Rows in
example : True := by
  w_top off
  trivial
open PySem PySem.W PyProof.Rows in
example {M : Model} {A : Around} {E : Value → Shared → Prop} {s : Shared} {Q : Unit → Shared → Prop} (h : Q () s) : wpAny M A (pure ()) Q E s := by
  first
    | (walk1; exact h)
    | exact wpAny_pure h
section
open PySem PySem.W PyProof.Rows PySem.Calls PyProof.Rows.LCg
set_option Elab.async false
set_option maxRecDepth 100000
set_option maxHeartbeats 4000000
set_option linter.unusedVariables false
set_option pp.deepTerms.threshold 5
set_option pp.maxSteps 2000
namespace Mine
-- HEAD
example : PySem.Challenge.rw_vk0007_01 = PySem.Challenge.rw_vk0007_01 ∧ hd.heap_39 = hd.heap_39 := by
  k_fill
  exact ⟨rfl, rfl⟩
local macro_rules | `(tactic| walk_at "getAttr ref") => `(tactic| ((with_reducible show wpAny _ _ (getAttr _ (PySem.Str.ofString "_items") _) _ _ _); k_dflt (refine items_at (by assumption) (by assumption) (SetIs.stays (by assumption) (Fr.keep (by assumption))) ?_)))
local macro_rules | `(tactic| walk_at "getMethod ref") => `(tactic| k_dflt (refine' meth_at ?f ?g ?s ?k1 ?k2 ?k3 ?k4 ?_; (case f => assumption); (case g => assumption); (case s => first | assumption | exact SetIs.stays (by assumption) (Fr.keep (by assumption))); (case k1 => k_is); (case k2 => k_is); (case k3 => k_is); (case k4 => decide)))
local macro_rules | `(tactic| walk_at "eval Name") => `(tactic| k_dflt (first
  | (refine' nameX_L ?hf ?hv ?_; (case hf => assumption); (case hv => first | (with_unfolding_all rfl) | (with_unfolding_all assumption)))
  | (refine name_B (by assumption) (by assumption) (by k_is) (by first | exact boot_reversed | exact boot_list | exact boot_range | exact boot_tuple | rfl) (by decide) ?_)
  | (refine name_G (by assumption) (by assumption) (by k_is) ?_)))
local macro_rules | `(tactic| walk_at "m_mem") => `(tactic| first | exact List.Mem.head _ | assumption | (apply List.Mem.tail; walk_at "m_mem"))
local macro_rules | `(tactic| walk_at "eval Name") => `(tactic| k_dflt (first
  | (refine' nm_L ?hf ?hv ?_; (case hf => assumption); (case hv => first | (with_unfolding_all rfl) | (with_unfolding_all assumption)))
  | (refine' nm_C ?hn ?hc ?hm ?hd ?_; (case hn => assumption); (case hc => rfl); (case hm => walk_at "m_mem"); (case hd => with_unfolding_all assumption))
  | (refine' nm_F ?hn ?hc ?hm ?hd ?_; (case hn => assumption); (case hc => rfl); (case hm => walk_at "m_mem"); (case hd => with_unfolding_all assumption))
  | (refine nm_B (by assumption) (by assumption) (by k_is) (by first | exact boot_reversed | exact boot_list | exact boot_range | exact boot_tuple | rfl) (by decide) ?_)
  | (refine nm_G (by assumption) (by assumption) (by k_is) ?_)))
local macro_rules | `(tactic| walk_at "getAttr ref") => `(tactic| ((with_reducible show wpAny _ _ (getAttr _ (PySem.Str.ofString "__class__") _) _ _ _); k_dflt (refine class_at (by assumption) (by assumption) (SetIs.stays (by assumption) (Fr.keep (by assumption))) ?_)))
local macro_rules | `(tactic| walk_at "m_suf") => `(tactic| repeat' (first | exact suf_self _ | assumption | apply suf_cons))
local macro_rules | `(tactic| walk_at "eval ListComp") => `(tactic| k_dflt (refine start_comp _ (by intro _; rfl) (by rfl) rfl (by decide) ?_))
local macro_rules | `(tactic| walk_at "exec Assign cons ListComp") => `(tactic| k_dflt (refine wpAny_Assign_Name ?_))
-- BODY
section
variable {w : World} {A : Around} {s : Shared} {mg mb : Str → Option Value} {Q : Flow → Shared → Prop} {E : Value → Shared → Prop} {h₀ : Heap} {L b : Addr} {m : Str → Option Value} {g : Heap} {s₁ : Shared}
theorem seg5 {x l D : Addr} {vs ws : Array Value} {ds : List Nat} {tx : Bool} {bm : Addr} {obm : Obj} {v5 v6 v7 : Option Value}
    (G : Gr w mg mb h₀) (h74 : h₀.get? 74 = none) (MB : BMod h₀ mainGlobals mg bm obm) (R : Rm A 10)
    (T : St h₀ L b g s₁ #[] (some (.ref b)) (some (.bool tx)) (some (.ref D)) (some (.ref x)) v5 v6 v7 s m)
    (S : SetIs g x l) (hl : g.IsList l vs) (hT : Ths tx ds vs.toList) (hs : ds.Pairwise (· < ·)) (hD : g.IsList D ws) (hT' : Ths tx ds ws.toList)
    (next : ∀ s' g' ps, St h₀ L b g' s₁ ps (some (.ref b)) (some (.bool tx)) (some (.ref D)) (some (.ref x)) v5 v6 v7 s' m → Heap.StaysIn g g' → wpAny (model PySem.Challenge.rw_vk0007_01.row.prog w) A (execs (tl w.params 6) (lawEnv w.params L)) Q E s') :
    wpAny (model PySem.Challenge.rw_vk0007_01.row.prog w) A (execs (tl w.params 5) (lawEnv w.params L)) Q E s := by
  have hlen := hT.len9 hs
  obtain ⟨F, ⟨o1, o2, o3, o4, o5, o6, o7, xb, tb, ep, N, d1, d2, d3, d4, d5, d6, d7⟩, ap, hb, hlow, hbare, hos⟩ := id T
  have KX := G.K
  have kg := stands N (by walk_at "m_suf")
  conv in tl w.params 5 => unfold tl lawAt
  conv in lawEnv w.params L => unfold lawEnv lawAt
  simp only [List.drop]
  repeat' walk1
  refine isset_spec G F.keep (R.less (by omega)) (S.stays kg) (upS kg hl) hT (by omega) (upS kg hD) hT' (by omega) ?_
  intro h₂ tk₂ k₂
  have F₂ := F.keeps k₂
  have N₂ := N.keeps k₂
  have kg₂ := stands N₂ (by walk_at "m_suf")
  clear F N kg
  rw [beq_self_eq_true]
  repeat' walk1
  refine rev_set F₂ G (fun _ _ e => e) (R.less (by omega)) (S.stays kg₂) (upS kg₂ hl) ?_
  intro h₃ tk₃ I₃ k₃ e₃ f₃
  have F₃ := F₂.keeps k₃
  have N₃ := news_new F₂ N₂ k₃ f₃ e₃
  have kg₃ := stands N₃ (by walk_at "m_suf")
  have ne₃ := news_fresh N₂ f₃
  clear F₂ N₂ kg₂
  repeat' walk1
  have hl₃ := upS kg₃ hl
  have hn : ds.length = vs.size := hT.len.trans (Array.length_toList (xs := vs))
  have hn' : ds.length = ws.size := hT'.len.trans (Array.length_toList (xs := ws))
  refine list_rev R.hh e₃ hl₃ (by omega) (by
    rintro rfl
    obtain ⟨_, q1, q2, _⟩ := hl₃
    rw [e₃] at q1; cases q1; exact absurd (Value.type.inj q2) (by decide)) ?_
  intro h₄ tk₄ D₄ ws₄ c₄ k₄ e₄ r₄ f₄
  have F₄ := fr_off1 F₃ N₃ (.head _) k₄
  have N₄ := news_more F₃ (news_off (fun p hp => N₃ p (.tail _ hp)) k₄ ne₃) f₄ e₄
  clear F₃ N₃ kg₃
  repeat' walk1
  have kg₄ := stands N₄ (by walk_at "m_suf")
  refine rev_l (s := { s with heap := h₄, toks := _ }) F₄ N₄ (upS kg₄ hD) (.int _ _) (by omega) ?_
  intro D₅ h₅ F₅ N₅ l₅
  have kg₅ := stands N₅ (by walk_at "m_suf")
  clear F₄ N₄ kg₄
  refine ne_things (listAt (N₅.get (.tail _ (.head _)))) (listAt (N₅.get (.head _))) (r₄ ▸ hT.reverse) (by simpa using hT'.reverse) R.units ?_
  rw [beq_self_eq_true]
  repeat' walk1
  refine rev_l (s := { s with heap := h₅, toks := _ }) F₅ N₅ (upS kg₅ hD) (.int _ _) (by omega) ?_
  intro D₆ h₆ F₆ N₆ l₆
  have kg₆ := stands N₆ (by walk_at "m_suf")
  clear F₅ N₅ kg₅
  repeat' walk1
  refine make_new (s := { s with heap := h₆, toks := _ }) G F₆.keep (R.less (by omega)) (listAt (N₆.get (.head _))) (by simpa using hT'.reverse) (by rw [List.length_reverse]; omega) ?_
  intro h₇ tk₇ x₇ dx₇ l₇ Y₇
  obtain ⟨hsh₇, tkd₇, nd₇, vs₇, ep₇, hTl, N₇, -⟩ := Y₇.news F₆ N₆
  have F₇ := F₆.keeps Y₇.keep
  have kg₇ := stands N₇ (by walk_at "m_suf")
  clear F₆ N₆ kg₆
  have e7 : ds.reverse.foldl ins [] = ds := sorted_ext (insAll_sorted .nil) hs fun x => by rw [insAll_mem]; simp
  rw [e7] at hTl
  refine ne_set F₇ G (fun _ _ e => e) (R.less (by omega)) (S.stays kg₇) (upS kg₇ hl) hT Y₇.is (listAt (N₇.get (.head _))) hTl ?_
  intro h₈ tk₈ k₈
  have F₈ := F₇.keeps k₈
  have N₈ := N₇.keeps k₈
  have kg₈ := stands N₈ (by walk_at "m_suf")
  clear F₇ N₇ kg₇
  rw [beq_self_eq_true]
  repeat' walk1
  refine rev_l (s := { s with heap := h₈, toks := _ }) F₈ N₈ (upS kg₈ hD) (.int _ _) (by omega) ?_
  intro D₉ h₉ F₉ N₉ l₉
  have kg₉ := stands N₉ (by walk_at "m_suf")
  clear F₈ N₈ kg₈
  refine eq_set_list F₉ G (fun _ _ e => e) h74 (N₉ (74, tabObj #[]) (by walk_at "m_mem")).1 MB hbare (R.less (by omega)) (S.stays kg₉) (upS kg₉ hl) hT hs (listAt (N₉.get (.head _))) (es := ds.reverse) (by simpa using hT'.reverse) (by rw [List.length_reverse]; omega) ?_
  intro s' ps k' e' hb' os'
  have e9 : ((ds.reverse.length == ds.length) && ds.reverse.all fun r => ds.contains r) = true := by simp
  rw [e9]
  iterate 5 walk1
  have Fe := fr_off F₉ k' (by rw [List.mem_singleton]; exact Nat.ne_of_gt hlow) (fun a ha => by rw [List.mem_singleton.mp ha]; exact h74)
  have Ne := led_tab (fun p hp => N₉ p ((show led0 L b o1 o2 o3 o4 o5 o6 o7 xb tb ep #[] (pairs g) <:+ _ by walk_at "m_suf").subset hp)) k' e' ap hb hlow
  obtain ⟨T', kg'⟩ := St.re Fe Ne (suf_self _) ⟨d1, d2, d3, d4, d5, d6, d7⟩ ap hb hlow hb' (os'.trans hos)
  exact next s' _ ps T' kg'
end
end Mine

end

open PySem PySem.W PyProof.Rows in
example : True := by
  w_top off
  trivial
open PySem PySem.W PyProof.Rows in
example {M : Model} {A : Around} {E : Value → Shared → Prop} {s : Shared} {Q : Unit → Shared → Prop} (h : Q () s) : wpAny M A (pure ()) Q E s := by
  first
    | (walk1; exact h)
    | exact wpAny_pure h
section
open PySem PySem.W PyProof.Rows PySem.Calls PyProof.Rows.LCg
set_option Elab.async false
set_option maxRecDepth 100000
set_option maxHeartbeats 4000000
set_option linter.unusedVariables false
set_option pp.deepTerms.threshold 5
set_option pp.maxSteps 2000
namespace Mine
-- HEAD
example : PySem.Challenge.rw_vk0007_01 = PySem.Challenge.rw_vk0007_01 ∧ hd.heap_39 = hd.heap_39 := by
  k_fill
  exact ⟨rfl, rfl⟩
local macro_rules | `(tactic| walk_at "getAttr ref") => `(tactic| ((with_reducible show wpAny _ _ (getAttr _ (PySem.Str.ofString "_items") _) _ _ _); k_dflt (refine items_at (by assumption) (by assumption) (SetIs.stays (by assumption) (Fr.keep (by assumption))) ?_)))
local macro_rules | `(tactic| walk_at "getMethod ref") => `(tactic| k_dflt (refine' meth_at ?f ?g ?s ?k1 ?k2 ?k3 ?k4 ?_; (case f => assumption); (case g => assumption); (case s => first | assumption | exact SetIs.stays (by assumption) (Fr.keep (by assumption))); (case k1 => k_is); (case k2 => k_is); (case k3 => k_is); (case k4 => decide)))
local macro_rules | `(tactic| walk_at "eval Name") => `(tactic| k_dflt (first
  | (refine' nameX_L ?hf ?hv ?_; (case hf => assumption); (case hv => first | (with_unfolding_all rfl) | (with_unfolding_all assumption)))
  | (refine name_B (by assumption) (by assumption) (by k_is) (by first | exact boot_reversed | exact boot_list | exact boot_range | exact boot_tuple | rfl) (by decide) ?_)
  | (refine name_G (by assumption) (by assumption) (by k_is) ?_)))
local macro_rules | `(tactic| walk_at "m_mem") => `(tactic| first | exact List.Mem.head _ | assumption | (apply List.Mem.tail; walk_at "m_mem"))
local macro_rules | `(tactic| walk_at "eval Name") => `(tactic| k_dflt (first
  | (refine' nm_L ?hf ?hv ?_; (case hf => assumption); (case hv => first | (with_unfolding_all rfl) | (with_unfolding_all assumption)))
  | (refine' nm_C ?hn ?hc ?hm ?hd ?_; (case hn => assumption); (case hc => rfl); (case hm => walk_at "m_mem"); (case hd => with_unfolding_all assumption))
  | (refine' nm_F ?hn ?hc ?hm ?hd ?_; (case hn => assumption); (case hc => rfl); (case hm => walk_at "m_mem"); (case hd => with_unfolding_all assumption))
  | (refine nm_B (by assumption) (by assumption) (by k_is) (by first | exact boot_reversed | exact boot_list | exact boot_range | exact boot_tuple | rfl) (by decide) ?_)
  | (refine nm_G (by assumption) (by assumption) (by k_is) ?_)))
local macro_rules | `(tactic| walk_at "getAttr ref") => `(tactic| ((with_reducible show wpAny _ _ (getAttr _ (PySem.Str.ofString "__class__") _) _ _ _); k_dflt (refine class_at (by assumption) (by assumption) (SetIs.stays (by assumption) (Fr.keep (by assumption))) ?_)))
local macro_rules | `(tactic| walk_at "m_suf") => `(tactic| repeat' (first | exact suf_self _ | assumption | apply suf_cons))
local macro_rules | `(tactic| walk_at "eval ListComp") => `(tactic| k_dflt (refine start_comp _ (by intro _; rfl) (by rfl) rfl (by decide) ?_))
local macro_rules | `(tactic| walk_at "exec Assign cons ListComp") => `(tactic| k_dflt (refine wpAny_Assign_Name ?_))
-- BODY
section
variable {w : World} {A : Around} {s : Shared} {mg mb : Str → Option Value} {Q : Flow → Shared → Prop} {E : Value → Shared → Prop} {h₀ : Heap} {L b : Addr} {m : Str → Option Value} {g : Heap} {s₁ : Shared} {ps : Array Value}
theorem seg6 {v2 v3 v4 v5 v6 v7 : Option Value}
    (G : Gr w mg mb h₀) (R : Rm A 10) (T : St h₀ L b g s₁ ps (some (.ref b)) v2 v3 v4 v5 v6 v7 s m)
    (next : ∀ s' g' m' i j ti tj, St h₀ L b g' s₁ ps (some (.ref b)) v2 v3 v4 v5 v6 v7 s' m' → Heap.StaysIn g g' → m' "i" = some (.int i ti) → m' "j" = some (.int j tj) → m' "things" = m "things" → wpAny (model PySem.Challenge.rw_vk0007_01.row.prog w) A (execs (tl w.params 8) (lawEnv w.params L)) Q E s') :
    wpAny (model PySem.Challenge.rw_vk0007_01.row.prog w) A (execs (tl w.params 6) (lawEnv w.params L)) Q E s := by
  obtain ⟨F, ⟨o1, o2, o3, o4, o5, o6, o7, xb, tb, ep, N, d1, d2, d3, d4, d5, d6, d7⟩, ap, hb, hlow, hbare, hos⟩ := id T
  have KX := G.K
  conv in tl w.params 6 => unfold tl lawAt
  conv in lawEnv w.params L => unfold lawEnv lawAt
  simp only [List.drop]
  repeat' walk1
  refine draw_spec G F.keep (R.less (by omega)) (N (b, _) (by walk_at "m_mem")).1 (N (b, _) (by walk_at "m_mem")).2.2 (by decide) (by decide) ?_
  intro h₂ tk₂ t₂ t₂' k₂ e₂
  have apb : g.get? b = none := ap b (by simp)
  have F₂ := fr_off1 F N (l := b) (by walk_at "m_mem") k₂
  have N₂ := led_bag N k₂ e₂ (pairs_ne apb) hb hlow
  clear F N
  repeat' walk1
  rename Fr _ _ _ _ => F₃
  rename News _ _ _ _ => N₃
  refine draw_spec G F₃.keep (R.less (by omega)) (N₃ (b, _) (by walk_at "m_mem")).1 (N₃ (b, _) (by walk_at "m_mem")).2.2 (by decide) (by decide) ?_
  intro h₄ tk₄ t₄ t₄' k₄ e₄
  have F₄ := fr_off1 F₃ N₃ (l := b) (by walk_at "m_mem") k₄
  have N₄ := led_bag N₃ k₄ e₄ (pairs_ne apb) hb hlow
  clear F₃ N₃
  refine st_L F₄ N₄ ?_
  intro h₅ F₅ N₅
  obtain ⟨T', kg'⟩ := St.re (s' := { s with heap := h₅, toks := _ }) F₅ N₅ (suf_self _) ⟨d1, d2, d3, d4, d5, d6, d7⟩ ap hb hlow hbare hos
  exact next _ _ _ _ _ _ _ T' kg' rfl rfl rfl
end
end Mine

end

open PySem PySem.W PyProof.Rows in
example : True := by
  w_top off
  trivial
open PySem PySem.W PyProof.Rows in
example {M : Model} {A : Around} {E : Value → Shared → Prop} {s : Shared} {Q : Unit → Shared → Prop} (h : Q () s) : wpAny M A (pure ()) Q E s := by
  first
    | (walk1; exact h)
    | exact wpAny_pure h
section
open PySem PySem.W PyProof.Rows PySem.Calls PyProof.Rows.LCg
set_option Elab.async false
set_option maxRecDepth 100000
set_option maxHeartbeats 4000000
set_option linter.unusedVariables false
set_option pp.deepTerms.threshold 5
set_option pp.maxSteps 2000
namespace Mine
-- HEAD
example : PySem.Challenge.rw_vk0007_01 = PySem.Challenge.rw_vk0007_01 ∧ hd.heap_39 = hd.heap_39 := by
  k_fill
  exact ⟨rfl, rfl⟩
local macro_rules | `(tactic| walk_at "getAttr ref") => `(tactic| ((with_reducible show wpAny _ _ (getAttr _ (PySem.Str.ofString "_items") _) _ _ _); k_dflt (refine items_at (by assumption) (by assumption) (SetIs.stays (by assumption) (Fr.keep (by assumption))) ?_)))
local macro_rules | `(tactic| walk_at "getMethod ref") => `(tactic| k_dflt (refine' meth_at ?f ?g ?s ?k1 ?k2 ?k3 ?k4 ?_; (case f => assumption); (case g => assumption); (case s => first | assumption | exact SetIs.stays (by assumption) (Fr.keep (by assumption))); (case k1 => k_is); (case k2 => k_is); (case k3 => k_is); (case k4 => decide)))
local macro_rules | `(tactic| walk_at "eval Name") => `(tactic| k_dflt (first
  | (refine' nameX_L ?hf ?hv ?_; (case hf => assumption); (case hv => first | (with_unfolding_all rfl) | (with_unfolding_all assumption)))
  | (refine name_B (by assumption) (by assumption) (by k_is) (by first | exact boot_reversed | exact boot_list | exact boot_range | exact boot_tuple | rfl) (by decide) ?_)
  | (refine name_G (by assumption) (by assumption) (by k_is) ?_)))
local macro_rules | `(tactic| walk_at "m_mem") => `(tactic| first | exact List.Mem.head _ | assumption | (apply List.Mem.tail; walk_at "m_mem"))
local macro_rules | `(tactic| walk_at "eval Name") => `(tactic| k_dflt (first
  | (refine' nm_L ?hf ?hv ?_; (case hf => assumption); (case hv => first | (with_unfolding_all rfl) | (with_unfolding_all assumption)))
  | (refine' nm_C ?hn ?hc ?hm ?hd ?_; (case hn => assumption); (case hc => rfl); (case hm => walk_at "m_mem"); (case hd => with_unfolding_all assumption))
  | (refine' nm_F ?hn ?hc ?hm ?hd ?_; (case hn => assumption); (case hc => rfl); (case hm => walk_at "m_mem"); (case hd => with_unfolding_all assumption))
  | (refine nm_B (by assumption) (by assumption) (by k_is) (by first | exact boot_reversed | exact boot_list | exact boot_range | exact boot_tuple | rfl) (by decide) ?_)
  | (refine nm_G (by assumption) (by assumption) (by k_is) ?_)))
local macro_rules | `(tactic| walk_at "getAttr ref") => `(tactic| ((with_reducible show wpAny _ _ (getAttr _ (PySem.Str.ofString "__class__") _) _ _ _); k_dflt (refine class_at (by assumption) (by assumption) (SetIs.stays (by assumption) (Fr.keep (by assumption))) ?_)))
local macro_rules | `(tactic| walk_at "m_suf") => `(tactic| repeat' (first | exact suf_self _ | assumption | apply suf_cons))
local macro_rules | `(tactic| walk_at "eval ListComp") => `(tactic| k_dflt (refine start_comp _ (by intro _; rfl) (by rfl) rfl (by decide) ?_))
local macro_rules | `(tactic| walk_at "exec Assign cons ListComp") => `(tactic| k_dflt (refine wpAny_Assign_Name ?_))
-- BODY
section
variable {w : World} {A : Around} {s : Shared} {mg mb : Str → Option Value} {Q : Flow → Shared → Prop} {E : Value → Shared → Prop} {h₀ : Heap} {L b : Addr} {m : Str → Option Value} {g : Heap} {s₁ : Shared} {ps : Array Value}
theorem seg8 {v2 v5 v6 v7 : Option Value} {x l D : Addr} {vs ws : Array Value} {ds : List Nat} {tx : Bool} {i j : Int} {ti tj : Tok}
    (G : Gr w mg mb h₀) (R : Rm A 10) (hg : A.guards = some []) (T : St h₀ L b g s₁ ps (some (.ref b)) v2 (some (.ref D)) (some (.ref x)) v5 v6 v7 s m)
    (S : SetIs g x l) (hl : g.IsList l vs) (hT : Ths tx ds vs.toList) (hs : ds.Pairwise (· < ·)) (hD : g.IsList D ws) (hT' : Ths tx ds ws.toList)
    (hmi : m "i" = some (.int i ti)) (hmj : m "j" = some (.int j tj))
    (next : ∀ s' g', St h₀ L b g' s₁ ps (some (.ref b)) v2 (some (.ref D)) (some (.ref x)) v5 v6 v7 s' m → Heap.StaysIn g g' → wpAny (model PySem.Challenge.rw_vk0007_01.row.prog w) A (execs (tl w.params 9) (lawEnv w.params L)) Q E s') :
    wpAny (model PySem.Challenge.rw_vk0007_01.row.prog w) A (execs (tl w.params 8) (lawEnv w.params L)) Q E s := by
  have hlen := hT.len9 hs
  have hn : ds.length = vs.size := hT.len.trans (Array.length_toList (xs := vs))
  have hn' : ds.length = ws.size := hT'.len.trans (Array.length_toList (xs := ws))
  obtain ⟨F, ⟨o1, o2, o3, o4, o5, o6, o7, xb, tb, ep, N, d1, d2, d3, d4, d5, d6, d7⟩, ap, hb, hlow, hbare, hos⟩ := id T
  have KX := G.K
  have kg := stands N (by walk_at "m_suf")
  conv in tl w.params 8 => unfold tl lawAt
  conv in lawEnv w.params L => unfold lawEnv lawAt
  simp only [List.drop]
  repeat' walk1
  have F₂ := F.push { cls := .type "slice", data := .fields #[.int i ti, .int j tj, .none] }
  have N₂ := N.push F { cls := .type "slice", data := .fields #[.int i ti, .int j tj, .none] }
  have kg₂ := stands N₂ (by walk_at "m_suf")
  refine sub_slice F₂ G (fun _ _ e => e) (R.less (by omega)) (S.stays kg₂) (upS kg₂ hl) hT (by omega) ⟨_, Heap.get?_push_size _ rfl, rfl, rfl⟩ (.int i ti) (.int j tj) ?_
  intro h₃ tk₃ D₃ ws₃ c₃ k₃ f₃ e₃ t₃
  have F₃ := F₂.keeps k₃
  have N₃ := news_new F₂ N₂ k₃ f₃ e₃
  have kg₃ := stands N₃ (by walk_at "m_suf")
  clear F₂ N₂ kg₂ F N kg
  repeat' walk1
  refine cut_l (s := { s with heap := h₃, toks := _ }) F₃ N₃ (upS kg₃ hD) (.int i ti) (.int j tj) rfl (by omega) ?_
  intro D₄ h₄ F₄ N₄ l₄
  have kg₄ := stands N₄ (by walk_at "m_suf")
  clear F₃ N₃ kg₃
  refine ne_things (listAt (N₄.get (.tail _ (.head _)))) (listAt (N₄.get (.head _))) t₃ (by simpa using hT'.pick _ _) R.units ?_
  rw [beq_self_eq_true]
  repeat' walk1
  refine call_len_list (upS kg₄ hD) (by omega) ?_
  repeat' walk1
  refine call_len_list (upS kg₄ hD) (by omega) ?_
  repeat' walk1
  rename IsRange _ _ _ _ _ _ _ _ => hrg
  rename Fr _ _ _ _ => F₅
  rename News _ _ _ _ => N₅
  have N₅' : News h₀ L _ (led0 L b o1 o2 o3 o4 o5 o6 o7 xb tb ep ps (pairs g)) := fun p hp => N₅ p ((show led0 L b o1 o2 o3 o4 o5 o6 o7 xb tb ep ps (pairs g) <:+ _ by walk_at "m_suf").subset hp)
  clear N₅ kg₄
  have hsz : Builtin.Range.rangeSize (-(ws.size : Int)) (ws.size : Int) 1 = ((2 * ws.size : Nat) : Int) := by
    unfold Builtin.Range.rangeSize
    rw [if_pos (by decide), Int.ediv_one]
    split <;> omega
  refine comp_range (n := 2 * ws.size) R.hh (MkC.none (by decide) rfl) (fun C i ys news => news = led0 L b o1 o2 o3 o4 o5 o6 o7 xb tb ep ps (pairs g) ∧ ys = (vs.toList ++ vs.toList).take i) hrg (small_one (by omega) (by omega) (by omega) (by omega)) hsz (by omega) F₅ N₅' (fun C _ => ⟨rfl, rfl⟩) ?_ ?_
  · rintro C k t ys m₁ news₁ h₆ tk₆ I oI D₆ oL hk ⟨rfl, rfl⟩ hyl hoL F₆ N₆ hoff hap
    clear F₅ N₅'
    refine wpAny_assign_Name ?_
    refine st_L F₆ N₆ ?_
    intro h₇ F₇ N₇
    clear F₆ N₆
    have kg₇ := stands N₇ (by walk_at "m_suf")
    refine wpAny_tests_nil ?_
    repeat' walk1
    obtain ⟨v, hv⟩ : ∃ v, (vs.toList ++ vs.toList)[k]? = some v := ⟨_, List.getElem?_eq_getElem (by rw [List.length_append, Array.length_toList]; omega)⟩
    have hv' : vs[(if -(ws.size : Int) + (k : Int) < 0 then -(ws.size : Int) + (k : Int) + vs.size else -(ws.size : Int) + (k : Int)).toNat]? = some v := by
      by_cases hk2 : k < vs.size
      · rw [if_pos (by omega), show (-(ws.size : Int) + (k : Int) + vs.size).toNat = k by omega]
        rw [List.getElem?_append_left (by rw [Array.length_toList]; exact hk2), Array.getElem?_toList] at hv
        exact hv
      · rw [if_neg (by omega), show (-(ws.size : Int) + (k : Int)).toNat = k - vs.size by omega]
        rw [List.getElem?_append_right (by rw [Array.length_toList]; omega), Array.length_toList, Array.getElem?_toList] at hv
        exact hv
    refine sub_int F₇ G (fun _ _ e => e) (R.less (by omega)) (S.stays kg₇) (upS kg₇ hl) (by omega) (by omega) (by omega) hv' ?_
    intro h₈ tk₈ k₈
    exact ⟨_, _, _, _, rfl, F₇.keeps k₈, N₇.keeps k₈, hoff, rfl, by rw [List.take_add_one, hv]; rfl⟩
  · rintro C D₆ ys news₁ h₆ tk₆ ⟨rfl, rfl⟩ F₆ N₆ hoff fD
    clear F₅ N₅'
    repeat' walk1
    have hys : ((vs.toList ++ vs.toList).take (2 * ws.size)) = vs.toList ++ vs.toList := List.take_of_length_le (by rw [List.length_append, Array.length_toList]; omega)
    rw [hys] at N₆
    have kg₆ := stands N₆ (by walk_at "m_suf")
    refine cat_l F₆ N₆ (upS kg₆ hD) (upS kg₆ hD) (by omega) ?_
    intro D₇ h₇ F₇ N₇ l₇ f₇
    have kg₇ := stands N₇ (by walk_at "m_suf")
    clear F₆ N₆ kg₆
    refine ne_things (listAt (N₇.get (.tail _ (.head _)))) (listAt (N₇.get (.head _))) (ds := ds ++ ds) (es := ds ++ ds) (by simpa using hT.append hT) (by simpa using hT'.append hT') R.units ?_
    rw [beq_self_eq_true]
    repeat' walk1
    refine repr_set F₇ G (fun _ _ e => e) (R.less (by omega)) hg (S.stays kg₇) (upS kg₇ hl) hT (by omega) ?_
    intro h₈ tk₈ u₈ k₈
    have F₈ := F₇.keeps k₈
    have N₈ := N₇.keeps k₈
    have kg₈ := stands N₈ (by walk_at "m_suf")
    clear F₇ N₇ kg₇
    have e3 := txtOf_len (tx := tx) hT.lt
    repeat' walk1
    refine repr_list (R.less (by omega)) hg (upS kg₈ hD) hT' (by omega) ?_
    intro h₉ tk₉ u₉ k₉
    have F₉ := F₈.keeps k₉
    have N₉ := N₈.keeps k₉
    clear F₈ N₈ kg₈
    generalize txtOf tx ds = TT at *
    iterate 6 walk1
    · rename_i hne
      simp at hne
    · rename Fr _ _ _ _ => F₁₀
      rename News _ _ _ _ => N₁₀
      iterate 3 walk1
      obtain ⟨T', kg'⟩ := St.re (s' := { s with heap := _, toks := _ }) F₁₀ N₁₀ (by walk_at "m_suf") ⟨d1, d2, d3, d4, d5, d6, d7⟩ ap hb hlow hbare hos
      exact next _ _ T' kg'
end
end Mine

end

open PySem PySem.W PyProof.Rows in
example : True := by
  w_top off
  trivial
open PySem PySem.W PyProof.Rows in
example {M : Model} {A : Around} {E : Value → Shared → Prop} {s : Shared} {Q : Unit → Shared → Prop} (h : Q () s) : wpAny M A (pure ()) Q E s := by
  first
    | (walk1; exact h)
    | exact wpAny_pure h
section
open PySem PySem.W PyProof.Rows PySem.Calls PyProof.Rows.LCg
set_option Elab.async false
set_option maxRecDepth 100000
set_option maxHeartbeats 4000000
set_option linter.unusedVariables false
set_option pp.deepTerms.threshold 5
set_option pp.maxSteps 2000
namespace Mine
-- HEAD
example : PySem.Challenge.rw_vk0007_01 = PySem.Challenge.rw_vk0007_01 ∧ hd.heap_39 = hd.heap_39 := by
  k_fill
  exact ⟨rfl, rfl⟩
local macro_rules | `(tactic| walk_at "getAttr ref") => `(tactic| ((with_reducible show wpAny _ _ (getAttr _ (PySem.Str.ofString "_items") _) _ _ _); k_dflt (refine items_at (by assumption) (by assumption) (SetIs.stays (by assumption) (Fr.keep (by assumption))) ?_)))
local macro_rules | `(tactic| walk_at "getMethod ref") => `(tactic| k_dflt (refine' meth_at ?f ?g ?s ?k1 ?k2 ?k3 ?k4 ?_; (case f => assumption); (case g => assumption); (case s => first | assumption | exact SetIs.stays (by assumption) (Fr.keep (by assumption))); (case k1 => k_is); (case k2 => k_is); (case k3 => k_is); (case k4 => decide)))
local macro_rules | `(tactic| walk_at "eval Name") => `(tactic| k_dflt (first
  | (refine' nameX_L ?hf ?hv ?_; (case hf => assumption); (case hv => first | (with_unfolding_all rfl) | (with_unfolding_all assumption)))
  | (refine name_B (by assumption) (by assumption) (by k_is) (by first | exact boot_reversed | exact boot_list | exact boot_range | exact boot_tuple | rfl) (by decide) ?_)
  | (refine name_G (by assumption) (by assumption) (by k_is) ?_)))
local macro_rules | `(tactic| walk_at "m_mem") => `(tactic| first | exact List.Mem.head _ | assumption | (apply List.Mem.tail; walk_at "m_mem"))
local macro_rules | `(tactic| walk_at "eval Name") => `(tactic| k_dflt (first
  | (refine' nm_L ?hf ?hv ?_; (case hf => assumption); (case hv => first | (with_unfolding_all rfl) | (with_unfolding_all assumption)))
  | (refine' nm_C ?hn ?hc ?hm ?hd ?_; (case hn => assumption); (case hc => rfl); (case hm => walk_at "m_mem"); (case hd => with_unfolding_all assumption))
  | (refine' nm_F ?hn ?hc ?hm ?hd ?_; (case hn => assumption); (case hc => rfl); (case hm => walk_at "m_mem"); (case hd => with_unfolding_all assumption))
  | (refine nm_B (by assumption) (by assumption) (by k_is) (by first | exact boot_reversed | exact boot_list | exact boot_range | exact boot_tuple | rfl) (by decide) ?_)
  | (refine nm_G (by assumption) (by assumption) (by k_is) ?_)))
local macro_rules | `(tactic| walk_at "getAttr ref") => `(tactic| ((with_reducible show wpAny _ _ (getAttr _ (PySem.Str.ofString "__class__") _) _ _ _); k_dflt (refine class_at (by assumption) (by assumption) (SetIs.stays (by assumption) (Fr.keep (by assumption))) ?_)))
local macro_rules | `(tactic| walk_at "m_suf") => `(tactic| repeat' (first | exact suf_self _ | assumption | apply suf_cons))
local macro_rules | `(tactic| walk_at "eval ListComp") => `(tactic| k_dflt (refine start_comp _ (by intro _; rfl) (by rfl) rfl (by decide) ?_))
local macro_rules | `(tactic| walk_at "exec Assign cons ListComp") => `(tactic| k_dflt (refine wpAny_Assign_Name ?_))
-- BODY
section
variable {h₀ h h' gi : Heap} {L C I D b : Addr} {oI oD oL o1 o2 o3 o4 o5 o6 o7 : Obj} {x x' : Int} {t t' : Tok} {ep : Nat} {ps : Array Value}
/-- within a comprehension the bag was drawn from, and new objects came -/
theorem grow_comp (N : News h₀ C h ((I, oI) :: (D, oD) :: (L, oL) :: led0 L b o1 o2 o3 o4 o5 o6 o7 x t ep ps (pairs gi))) (hC : ∃ o, h.get? C = some o) (kh : Heap.StaysIn h₀ h)
    (hoff : ∀ p ∈ led0 L b o1 o2 o3 o4 o5 o6 o7 x t ep ps (pairs gi), p.1 ≠ I ∧ p.1 ≠ D ∧ p.1 ≠ L) (ap : ∀ a ∈ Wl L b, gi.get? a = none) (lt : Ap L b) (low : 74 < L) (k : Off [b] h h') (e : h'.get? b = some (listOf #[.int x' t'] ep)) :
    ∃ g', News h₀ C h' ((I, oI) :: (D, oD) :: (L, oL) :: led0 L b o1 o2 o3 o4 o5 o6 o7 x' t' ep ps (pairs g')) ∧ (∀ a ∈ Wl L b, g'.get? a = none) ∧ Heap.StaysIn gi g' ∧ Heap.StaysIn (newer h h') g' ∧
      (∀ p ∈ led0 L b o1 o2 o3 o4 o5 o6 o7 x' t' ep ps (pairs g'), p.1 ≠ I ∧ p.1 ≠ D ∧ p.1 ≠ L) := by
  have hbm : (b, listOf #[.int x t] ep) ∈ led0 L b o1 o2 o3 o4 o5 o6 o7 x t ep ps (pairs gi) := by walk_at "m_mem"
  have hb3 := hoff _ hbm
  have N₂ : News h₀ C h' ((I, oI) :: (D, oD) :: (L, oL) :: led0 L b o1 o2 o3 o4 o5 o6 o7 x' t' ep ps (pairs gi)) :=
    news_put (pre := [(I, oI), (D, oD), (L, oL), (L + 1, o1), (L + 2, o2), (L + 3, o3), (L + 4, o4), (L + 5, o5), (L + 6, o6), (L + 7, o7)]) (post := (74, tabObj ps) :: pairs gi) N k e (by
      have q := lt.ne
      simp only [List.forall_mem_cons]
      exact ⟨hb3.1.symm, hb3.2.1.symm, hb3.2.2.symm, q 1 (by decide), q 2 (by decide), q 3 (by decide), q 4 (by decide), q 5 (by decide), q 6 (by decide), q 7 (by decide), fun _ h => nomatch h⟩) (fun p hp => by
      rcases List.mem_cons.mp hp with rfl | hp
      · exact lt.tab.symm
      · exact pairs_ne (ap b (by simp)) p hp)
  have hst : ∀ a ∈ C :: I :: D :: Wl L b, ∃ o, h.get? a = some o := by
    have inL : ∀ p ∈ (I, oI) :: (D, oD) :: (L, oL) :: led0 L b o1 o2 o3 o4 o5 o6 o7 x t ep ps (pairs gi), ∃ o, h.get? p.1 = some o := fun p hp => ⟨_, (N p hp).1⟩
    simp only [List.forall_mem_cons] at inL ⊢
    obtain ⟨a1, a2, a3, a4, a5, a6, a7, a8, a9, a10, a11, a12, _⟩ := inL
    exact ⟨hC, a1, a2, a3, a4, a5, a6, a7, a8, a9, a10, a11, a12, fun _ h => nomatch h⟩
  have hgi : ∀ a ∈ C :: I :: D :: Wl L b, gi.get? a = none := by
    have nn : ∀ a, (∀ o, (a, o) ∈ pairs gi → False) → gi.get? a = none := fun a q => by
      cases r : gi.get? a with
      | none => rfl
      | some o => exact (q o (mem_pairs.mpr r)).elim
    intro a ha
    rcases List.mem_cons.mp ha with rfl | ha
    · exact nn _ fun o ho => (N _ (.tail _ (.tail _ (.tail _ (led_suf.subset ho))))).2.1 rfl
    rcases List.mem_cons.mp ha with rfl | ha
    · exact nn _ fun o ho => (hoff _ (led_suf.subset ho)).1 rfl
    rcases List.mem_cons.mp ha with rfl | ha
    · exact nn _ fun o ho => (hoff _ (led_suf.subset ho)).2.1 rfl
    exact ap a ha
  refine ⟨over h₀ h' (C :: I :: D :: Wl L b), ?_, fun a ha => over_none (.tail _ (.tail _ (.tail _ ha))), over_stays (N₂) (suf_cons _ (suf_cons _ (suf_cons _ led_suf))) hgi, ?_, ?_⟩
  · exact anew (led' := (I, oI) :: (D, oD) :: (L, oL) :: led0 L b o1 o2 o3 o4 o5 o6 o7 x' t' ep ps []) N₂ (.head _) (fun p hp => by
      rcases List.mem_cons.mp hp with rfl | hp
      · exact .head _
      rcases List.mem_cons.mp hp with rfl | hp
      · exact .tail _ (.head _)
      rcases List.mem_cons.mp hp with rfl | hp
      · exact .tail _ (.tail _ (.head _))
      exact .tail _ (.tail _ (.tail _ (led_mem p hp))))
  · intro a o ea
    have e1 := of_hideAll _ ea
    have e2 : h.get? a = none := by
      cases q : h.get? a with
      | none => rfl
      | some o' =>
        have := hideAll_none (olds h) (h := h') (mem_olds.mpr ⟨o', q⟩)
        rw [this] at ea; cases ea
    refine over_get e1 (none_of kh e2) fun q => ?_
    obtain ⟨o', eo⟩ := hst a q
    rw [e2] at eo; cases eo
  · intro p hp
    have split : p ∈ led0 L b o1 o2 o3 o4 o5 o6 o7 x' t' ep ps [] ∨ p ∈ pairs (over h₀ h' (C :: I :: D :: Wl L b)) := by
      have : led0 L b o1 o2 o3 o4 o5 o6 o7 x' t' ep ps (pairs (over h₀ h' (C :: I :: D :: Wl L b))) = led0 L b o1 o2 o3 o4 o5 o6 o7 x' t' ep ps [] ++ pairs (over h₀ h' (C :: I :: D :: Wl L b)) := rfl
      rw [this] at hp
      exact List.mem_append.mp hp
    rcases split with hp | hp
    · have key : ∀ p ∈ led0 L b o1 o2 o3 o4 o5 o6 o7 x' t' ep ps [], ∃ p' ∈ led0 L b o1 o2 o3 o4 o5 o6 o7 x t ep ps (pairs gi), p'.1 = p.1 := by
        simp only [List.forall_mem_cons]
        exact ⟨⟨_, .head _, rfl⟩, ⟨_, .tail _ (.head _), rfl⟩, ⟨_, .tail _ (.tail _ (.head _)), rfl⟩, ⟨_, .tail _ (.tail _ (.tail _ (.head _))), rfl⟩, ⟨_, .tail _ (.tail _ (.tail _ (.tail _ (.head _)))), rfl⟩, ⟨_, .tail _ (.tail _ (.tail _ (.tail _ (.tail _ (.head _))))), rfl⟩, ⟨_, .tail _ (.tail _ (.tail _ (.tail _ (.tail _ (.tail _ (.head _)))))), rfl⟩, ⟨_, .tail _ (.tail _ (.tail _ (.tail _ (.tail _ (.tail _ (.tail _ (.head _))))))), rfl⟩, ⟨_, .tail _ (.tail _ (.tail _ (.tail _ (.tail _ (.tail _ (.tail _ (.tail _ (.head _)))))))), rfl⟩, fun _ h => nomatch h⟩
      have := key p hp
      obtain ⟨p', hp', e'⟩ := this
      rw [← e']; exact hoff p' hp'
    · have z := over_of (mem_pairs.mp hp)
      exact ⟨fun q => z.2.2 (q ▸ .tail _ (.head _)), fun q => z.2.2 (q ▸ .tail _ (.tail _ (.head _))), fun q => z.2.2 (q ▸ .tail _ (.tail _ (.tail _ (.head _))))⟩
end
end Mine

end

open PySem PySem.W PyProof.Rows in
example : True := by
  w_top off
  trivial
open PySem PySem.W PyProof.Rows in
example {M : Model} {A : Around} {E : Value → Shared → Prop} {s : Shared} {Q : Unit → Shared → Prop} (h : Q () s) : wpAny M A (pure ()) Q E s := by
  first
    | (walk1; exact h)
    | exact wpAny_pure h
section
open PySem PySem.W PyProof.Rows PySem.Calls PyProof.Rows.LCg
set_option Elab.async false
set_option maxRecDepth 100000
set_option maxHeartbeats 4000000
set_option linter.unusedVariables false
set_option pp.deepTerms.threshold 5
set_option pp.maxSteps 2000
namespace Mine
-- HEAD
example : PySem.Challenge.rw_vk0007_01 = PySem.Challenge.rw_vk0007_01 ∧ hd.heap_39 = hd.heap_39 := by
  k_fill
  exact ⟨rfl, rfl⟩
local macro_rules | `(tactic| walk_at "getAttr ref") => `(tactic| ((with_reducible show wpAny _ _ (getAttr _ (PySem.Str.ofString "_items") _) _ _ _); k_dflt (refine items_at (by assumption) (by assumption) (SetIs.stays (by assumption) (Fr.keep (by assumption))) ?_)))
local macro_rules | `(tactic| walk_at "getMethod ref") => `(tactic| k_dflt (refine' meth_at ?f ?g ?s ?k1 ?k2 ?k3 ?k4 ?_; (case f => assumption); (case g => assumption); (case s => first | assumption | exact SetIs.stays (by assumption) (Fr.keep (by assumption))); (case k1 => k_is); (case k2 => k_is); (case k3 => k_is); (case k4 => decide)))
local macro_rules | `(tactic| walk_at "eval Name") => `(tactic| k_dflt (first
  | (refine' nameX_L ?hf ?hv ?_; (case hf => assumption); (case hv => first | (with_unfolding_all rfl) | (with_unfolding_all assumption)))
  | (refine name_B (by assumption) (by assumption) (by k_is) (by first | exact boot_reversed | exact boot_list | exact boot_range | exact boot_tuple | rfl) (by decide) ?_)
  | (refine name_G (by assumption) (by assumption) (by k_is) ?_)))
local macro_rules | `(tactic| walk_at "m_mem") => `(tactic| first | exact List.Mem.head _ | assumption | (apply List.Mem.tail; walk_at "m_mem"))
local macro_rules | `(tactic| walk_at "eval Name") => `(tactic| k_dflt (first
  | (refine' nm_L ?hf ?hv ?_; (case hf => assumption); (case hv => first | (with_unfolding_all rfl) | (with_unfolding_all assumption)))
  | (refine' nm_C ?hn ?hc ?hm ?hd ?_; (case hn => assumption); (case hc => rfl); (case hm => walk_at "m_mem"); (case hd => with_unfolding_all assumption))
  | (refine' nm_F ?hn ?hc ?hm ?hd ?_; (case hn => assumption); (case hc => rfl); (case hm => walk_at "m_mem"); (case hd => with_unfolding_all assumption))
  | (refine nm_B (by assumption) (by assumption) (by k_is) (by first | exact boot_reversed | exact boot_list | exact boot_range | exact boot_tuple | rfl) (by decide) ?_)
  | (refine nm_G (by assumption) (by assumption) (by k_is) ?_)))
local macro_rules | `(tactic| walk_at "getAttr ref") => `(tactic| ((with_reducible show wpAny _ _ (getAttr _ (PySem.Str.ofString "__class__") _) _ _ _); k_dflt (refine class_at (by assumption) (by assumption) (SetIs.stays (by assumption) (Fr.keep (by assumption))) ?_)))
local macro_rules | `(tactic| walk_at "m_suf") => `(tactic| repeat' (first | exact suf_self _ | assumption | apply suf_cons))
local macro_rules | `(tactic| walk_at "eval ListComp") => `(tactic| k_dflt (refine start_comp _ (by intro _; rfl) (by rfl) rfl (by decide) ?_))
local macro_rules | `(tactic| walk_at "exec Assign cons ListComp") => `(tactic| k_dflt (refine wpAny_Assign_Name ?_))
-- BODY
section
variable {prog : Program} {w : World} {A : Around} {s : Shared} {h₀ : Heap} {env : Env} {E : Value → Shared → Prop}
  {elt target iter : PySem.Expr} {ifs : List PySem.Expr} {scope : Scope} {cl : List (Str × Addr)} {cl' : Addr → List (Str × Addr)} {cells : Addr → List (Addr × Obj)} {pos : Pos} {m : Str → Option Value} {news : List (Addr × Obj)} {RR : Value → Addr → Result → Shared → Prop}
theorem comp_listR {ax : Addr} {oax : Obj} {items : Array Value} (hh : A.handled = none) (MK : MkC scope cl' cells env cl) (J : Addr → Nat → List Value → List (Addr × Obj) → Prop)
    (hl : s.heap.IsList ax items) (hax : s.heap.get? ax = some oax) (hsz : items.size ≤ 1000)
    (hX : ∀ C i ys h news, Heap.StaysIn h₀ h → (∀ p ∈ news, h.get? p.1 = some p.2) → J C i ys news → h.get? ax = some oax)
    (F : Fr h₀ env.locals s.heap m) (N : News h₀ env.locals s.heap news) (hJ : ∀ C, s.heap.objs.size < C → J C 0 [] (cells C ++ news))
    (turn : ∀ C i v ys m₁ news₁ h₁ tk₁ I oI D oL, items[i]? = some v → J C i ys news₁ → ys.length ≤ i → NsObj oL m → Fr h₀ C h₁ m₁ → News h₀ C h₁ ((I, oI) :: (D, lst ys) :: (env.locals, oL) :: news₁) → (∀ p ∈ news₁, p.1 ≠ I ∧ p.1 ≠ D ∧ p.1 ≠ env.locals) → (I ≠ D ∧ I ≠ env.locals ∧ D ≠ env.locals) →
      wpAny (model prog w) A (assign target (compEnvC scope (cl' C) C env) v) (fun _ s₂ =>
        wpAny (model prog w) A (forIn ifs true fun c r => if r = true then do let ok ← isTrue c (compEnvC scope (cl' C) C env) (eval c (compEnvC scope (cl' C) C env)); pure (ForInStep.yield ok) else pure (ForInStep.yield r)) (fun ok s₃ =>
          if ok = true then wpAny (model prog w) A (eval elt (compEnvC scope (cl' C) C env)) (fun y s₄ => CTurn h₀ C I oI D ys env.locals oL (J C (i + 1)) s (ys ++ [y]) s₄) (fun _ _ => False) s₃
          else CTurn h₀ C I oI D ys env.locals oL (J C (i + 1)) s ys s₃) (fun _ _ => False) s₂) (fun _ _ => False) { s with heap := h₁, toks := tk₁ })
    (hRR : ∀ C D ys m' news₁ h₁ tk₁, J C items.size ys news₁ → Fr h₀ env.locals h₁ m → h₁.Ns C m' → h₀.get? C = none → C ≠ env.locals → D ≠ C → News h₀ env.locals h₁ ((D, lst ys) :: news₁) → (∀ p ∈ news₁, p.1 ≠ D ∧ p.1 ≠ C) → s.heap.get? D = none → RR (.ref D) C (.ok .next) { s with heap := h₁, toks := tk₁ }) :
    wpAny (model prog w) A (pyIter (.ref ax)) (fun it s₂ => wpAny (model prog w) A (newList []) (fun acc s₃ => wpAny (model prog w) A (newFunctionEnv scope env.globals cl [] env.qual none .none (some env)) (fun cenv s₄ =>
      codeAny (model prog w) A (.compStart (.ListComp elt [⟨target, iter, ifs, 0⟩] scope pos) 0 it acc { cenv with scope := relabel scope env }) (RR acc cenv.locals) s₄) E s₃) E s₂) E s := by
  refine wpAny_pyIter_list hl ?_
  have hlt : ax < s.heap.objs.size := Heap.lt_size hax
  refine compG (s := { s with heap := s.heap.push { cls := .type "list_iterator", data := .fields #[.ref ax, .int 0 0] } }) (Walks.list hh s.heap.objs.size ax (Nat.ne_of_lt hlt) items) (by rw [sizeLine_eq]; omega) MK (fun i v s' Q E st q => letGo_listiter st.1 q) (fun i h st => (by obtain ⟨o, e, _⟩ := st.1; exact ⟨o, e⟩))
    J (fun b hb hn => ?_) ⟨⟨_, Heap.get?_push_size _ rfl, rfl, rfl⟩, hl.push _⟩ _ (F.push _) (N.push F _) (fun p hp => Nat.ne_of_lt (Heap.lt_size (N p hp).1)) (fun C hC => hJ C (Nat.lt_trans (by show _ < (s.heap.push _).objs.size; rw [Heap.size_push]; exact Nat.lt_succ_self _) hC))
    (fun C i v ys m₁ news₁ h₁ tk₁ oI D oL hi hv a b c d e f g => wpAny_mono (turn C i v ys m₁ news₁ h₁ tk₁ _ oI D oL hv a b c d e f g) (fun _ _ q => wpAny_mono q (fun ok s₃ z => ?_) fun _ _ q => q) fun _ _ q => q) ?_
  · rcases List.mem_cons.mp hb with rfl | hb
    · exact absurd rfl hn
    · rw [List.mem_singleton.mp hb]; exact ⟨oax, Heap.get?_push_of_some _ hax, hX⟩
  · cases ok with
    | false => exact z
    | true => exact wpAny_mono z (fun _ _ z => z) fun _ _ z => z
  · intro C D ys m' news₁ h₁ tk₁ hJ₁ F₁ hn hC₀ hCL hDC N₁ off fD
    exact hRR C D ys m' news₁ h₁ tk₁ hJ₁ F₁ hn hC₀ hCL hDC N₁ off (none_of (fun b o e => Heap.get?_push_of_some _ e) fD)
theorem comp_rangeR {r : Addr} {a b : Int} {t₀ u₀ v₀ : Tok} {n : Nat} (hh : A.handled = none) (MK : MkC scope cl' cells env cl) (J : Addr → Nat → List Value → List (Addr × Obj) → Prop)
    (hr : IsRange s.heap r a b 1 t₀ u₀ v₀) (hsmall : Builtin.Range.small a b 1 = true) (hn : Builtin.Range.rangeSize a b 1 = (n : Int)) (hsz : n ≤ 1000)
    (F : Fr h₀ env.locals s.heap m) (N : News h₀ env.locals s.heap news) (hJ : ∀ C, s.heap.objs.size < C → J C 0 [] (cells C ++ news))
    (turn : ∀ C i t ys m₁ news₁ h₁ tk₁ I oI D oL, i < n → J C i ys news₁ → ys.length ≤ i → NsObj oL m → Fr h₀ C h₁ m₁ → News h₀ C h₁ ((I, oI) :: (D, lst ys) :: (env.locals, oL) :: news₁) → (∀ p ∈ news₁, p.1 ≠ I ∧ p.1 ≠ D ∧ p.1 ≠ env.locals) → (I ≠ D ∧ I ≠ env.locals ∧ D ≠ env.locals) →
      wpAny (model prog w) A (assign target (compEnvC scope (cl' C) C env) (.int (a + i) t)) (fun _ s₂ =>
        wpAny (model prog w) A (forIn ifs true fun c r => if r = true then do let ok ← isTrue c (compEnvC scope (cl' C) C env) (eval c (compEnvC scope (cl' C) C env)); pure (ForInStep.yield ok) else pure (ForInStep.yield r)) (fun ok s₃ =>
          if ok = true then wpAny (model prog w) A (eval elt (compEnvC scope (cl' C) C env)) (fun y s₄ => CTurn h₀ C I oI D ys env.locals oL (J C (i + 1)) s (ys ++ [y]) s₄) (fun _ _ => False) s₃
          else CTurn h₀ C I oI D ys env.locals oL (J C (i + 1)) s ys s₃) (fun _ _ => False) s₂) (fun _ _ => False) { s with heap := h₁, toks := tk₁ })
    (hRR : ∀ C D ys m' news₁ h₁ tk₁, J C n ys news₁ → Fr h₀ env.locals h₁ m → h₁.Ns C m' → h₀.get? C = none → C ≠ env.locals → D ≠ C → News h₀ env.locals h₁ ((D, lst ys) :: news₁) → (∀ p ∈ news₁, p.1 ≠ D ∧ p.1 ≠ C) → s.heap.get? D = none → RR (.ref D) C (.ok .next) { s with heap := h₁, toks := tk₁ }) :
    wpAny (model prog w) A (pyIter (.ref r)) (fun it s₂ => wpAny (model prog w) A (newList []) (fun acc s₃ => wpAny (model prog w) A (newFunctionEnv scope env.globals cl [] env.qual none .none (some env)) (fun cenv s₄ =>
      codeAny (model prog w) A (.compStart (.ListComp elt [⟨target, iter, ifs, 0⟩] scope pos) 0 it acc { cenv with scope := relabel scope env }) (RR acc cenv.locals) s₄) E s₃) E s₂) E s := by
  refine wpAny_pyIter_range hr hsmall ?_
  refine compG (s := { s with heap := s.heap.push _ }) (Walks.range hh s.heap.objs.size a 1 n) (by rw [sizeLine_eq]; omega) MK (fun i v s' Q E st q => ?_) (fun i h st => ⟨_, st⟩)
    J (fun b hb hn => absurd (List.mem_singleton.mp hb) hn) (by show IsRangeIter _ _ _ _ _; rw [hn]; simpa using Heap.get?_push_size _ rfl) _ (F.push _) (N.push F _) (fun p hp => Nat.ne_of_lt (Heap.lt_size (N p hp).1)) (fun C hC => hJ C (Nat.lt_trans (by show _ < (s.heap.push _).objs.size; rw [Heap.size_push]; exact Nat.lt_succ_self _) hC))
    (fun C i v ys m₁ news₁ h₁ tk₁ oI D oL hi hv a b c d e f g => ?_) ?_
  · unfold letOwnedTupleGo
    cases target <;> first
      | exact wpAny_pure q
      | (cases v <;> first
          | exact wpAny_pure q
          | (refine wpAny_bind (wpAny_load st ?_)
             exact wpAny_pure q)
          | (refine wpAny_bind (wpAny_load st ?_)
             dsimp only
             rw [if_neg (by simp)]
             exact wpAny_pure q))
  · obtain ⟨t, rfl⟩ := hv
    have := turn C i t ys m₁ news₁ h₁ tk₁ _ oI D oL hi a b c d e f g
    rw [Int.mul_one]
    exact wpAny_mono this (fun _ _ q => wpAny_mono q (fun ok s₃ z => (by
      cases ok with
      | false => exact z
      | true => exact wpAny_mono z (fun _ _ z => z) fun _ _ z => z)) fun _ _ q => q) fun _ _ q => q
  · intro C D ys m' news₁ h₁ tk₁ hJ₁ F₁ hn hC₀ hCL hDC N₁ off fD
    exact hRR C D ys m' news₁ h₁ tk₁ hJ₁ F₁ hn hC₀ hCL hDC N₁ off (none_of (fun b o e => Heap.get?_push_of_some _ e) fD)

theorem postU {y : Str} {py : Pos} {C D : Addr} {ys : List Value} {m' : Str → Option Value} {news₁ : List (Addr × Obj)} {h₁ : Heap} {tk₁ : Nat} {Q : Shared → Prop}
    (F₁ : Fr h₀ env.locals h₁ m) (hn : h₁.Ns C m') (hC₀ : h₀.get? C = none) (hCL : C ≠ env.locals) (hDC : D ≠ C) (N₁ : News h₀ env.locals h₁ ((D, lst ys) :: news₁)) (off : ∀ p ∈ news₁, p.1 ≠ D ∧ p.1 ≠ C)
    (hy : env.kindOf y = some .local) (hk : env.scope.kind = .function)
    (done : ∀ h'' tk'', Fr h₀ env.locals h'' (fun z => if z = y then some (.ref D) else m z) → News h₀ env.locals h'' ((D, lst ys) :: news₁) → Q { s with heap := h'', toks := tk'' }) :
    compPost (model prog w) A E (some (assign (.Name y py) env)) (fun _ s' => Q s') (.ref D) C (.ok .next) { s with heap := h₁, toks := tk₁ } := by
  show wpAny _ A (assign (.Name y py) env (.ref D)) _ _ _
  refine wpAny_assign_Name (wpAny_storeName_local hy F₁.ns (fun h₂ hn₂ hs₂ => ?_) (by rw [hk]; rfl))
  have F₂ := F₁.set hn₂ hs₂
  have N₂ := N₁.set hs₂
  obtain ⟨oC, hoC, nsC⟩ := ns_obj hn
  refine ⟨m', nsC.ns ((hs₂.2 C hCL).trans hoC), fun h' hs' => done h' _ (F₂.change hs' hCL hC₀) fun p hp => ?_⟩
  refine ⟨hs'.extBut _ _ ?_ (N₂ p hp).1, (N₂ p hp).2⟩
  rcases List.mem_cons.mp hp with rfl | hp
  · exact hDC
  · exact (off p hp).2
theorem start_compU {y : Str} {py spos : Pos} {Q : Flow → Shared → Prop} (cl : List (Str × Addr)) (hsw : swapsWith (.ListComp elt [⟨target, iter, ifs, 0⟩] scope pos) (some (.Name y py)) spos.line env = pure true) (hs : ∀ x, foldedSetIterable iter env x = pure x)
    (hclos : closureFor scope env = pure cl) (hkind : scope.kind = .function) (hnames : (scope.names.all fun x => decide (scope.names.lookup x.1 = some x.2)) = true)
    (h : wpAny (model prog w) A (eval iter env) (fun x s₁ => wpAny (model prog w) A (pyIter x) (fun it s₂ => wpAny (model prog w) A (newList []) (fun acc s₃ => wpAny (model prog w) A (newFunctionEnv scope env.globals cl [] env.qual none .none (some env)) (fun cenv s₄ =>
      codeAny (model prog w) A (.compStart (.ListComp elt [⟨target, iter, ifs, 0⟩] scope pos) 0 it acc { cenv with scope := relabel scope env }) (compPost (model prog w) A E (some (assign (.Name y py) env)) (fun _ s' => Q .next s') acc cenv.locals) s₄) E s₃) E s₂) E s₁) E s) :
    wpAny (model prog w) A (exec (.Assign [.Name y py] (.ListComp elt [⟨target, iter, ifs, 0⟩] scope pos) spos) env) Q E s := by
  rw [exec_Assign_Name_used _ _ _ _ hsw]
  refine wpAny_bind (wpAny_standAt (wpAny_bind ?_))
  show wpAny _ A (do let _ ← comprehension (.ListComp elt [⟨target, iter, ifs, 0⟩] scope pos) scope env _ (newList []) false (eval iter env) (some (assign (.Name y py) env))) _ _ s
  exact wpAny_bind (wpAny_mono (wpAny_comprehension_free (use := some (assign (.Name y py) env)) (Q := fun _ s' => Q .next s') rfl hs hclos hkind (fun x hx hl => (of_decide_eq_true (List.all_eq_true.mp hnames x hx)).trans (congrArg some hl)) h) (fun _ s' hq => wpAny_pure (wpAny_pure hq)) fun _ _ e => e)
end
theorem led_at {L b : Addr} {o1 o2 o3 o4 o5 o6 o7 : Obj} {x : Int} {t : Tok} {ep : Nat} {ps : Array Value} {rest : List (Addr × Obj)} : ∀ a ∈ [L + 1, L + 2, L + 3, L + 4, L + 5, L + 6, L + 7, b, 74], ∃ p ∈ led0 L b o1 o2 o3 o4 o5 o6 o7 x t ep ps rest, p.1 = a := by
  simp only [List.forall_mem_cons]
  exact ⟨⟨_, .head _, rfl⟩, ⟨_, .tail _ (.head _), rfl⟩, ⟨_, .tail _ (.tail _ (.head _)), rfl⟩, ⟨_, .tail _ (.tail _ (.tail _ (.head _))), rfl⟩, ⟨_, .tail _ (.tail _ (.tail _ (.tail _ (.head _)))), rfl⟩, ⟨_, .tail _ (.tail _ (.tail _ (.tail _ (.tail _ (.head _))))), rfl⟩, ⟨_, .tail _ (.tail _ (.tail _ (.tail _ (.tail _ (.tail _ (.head _)))))), rfl⟩, ⟨_, .tail _ (.tail _ (.tail _ (.tail _ (.tail _ (.tail _ (.tail _ (.head _))))))), rfl⟩, ⟨_, .tail _ (.tail _ (.tail _ (.tail _ (.tail _ (.tail _ (.tail _ (.tail _ (.head _)))))))), rfl⟩, fun _ h => nomatch h⟩
theorem notW {L b D : Addr} {o1 o2 o3 o4 o5 o6 o7 : Obj} {x : Int} {t : Tok} {ep : Nat} {ps : Array Value} {rest : List (Addr × Obj)} (hL : D ≠ L) (off : ∀ p ∈ led0 L b o1 o2 o3 o4 o5 o6 o7 x t ep ps rest, p.1 ≠ D) : D ∉ Wl L b := fun q => by
  rcases List.mem_cons.mp q with q | q
  · exact hL q
  · obtain ⟨p, hp, e⟩ := led_at (o1 := o1) (o2 := o2) (o3 := o3) (o4 := o4) (o5 := o5) (o6 := o6) (o7 := o7) (x := x) (t := t) (ep := ep) (ps := ps) (rest := rest) D q
    exact off p hp e
end Mine

end

open PySem PySem.W PyProof.Rows in
example : True := by
  w_top off
  trivial
open PySem PySem.W PyProof.Rows in
example {M : Model} {A : Around} {E : Value → Shared → Prop} {s : Shared} {Q : Unit → Shared → Prop} (h : Q () s) : wpAny M A (pure ()) Q E s := by
  first
    | (walk1; exact h)
    | exact wpAny_pure h
section
open PySem PySem.W PyProof.Rows PySem.Calls PyProof.Rows.LCg
set_option Elab.async false
set_option maxRecDepth 100000
set_option maxHeartbeats 4000000
set_option linter.unusedVariables false
set_option pp.deepTerms.threshold 5
set_option pp.maxSteps 2000
namespace Mine
-- HEAD
example : PySem.Challenge.rw_vk0007_01 = PySem.Challenge.rw_vk0007_01 ∧ hd.heap_39 = hd.heap_39 := by
  k_fill
  exact ⟨rfl, rfl⟩
local macro_rules | `(tactic| walk_at "getAttr ref") => `(tactic| ((with_reducible show wpAny _ _ (getAttr _ (PySem.Str.ofString "_items") _) _ _ _); k_dflt (refine items_at (by assumption) (by assumption) (SetIs.stays (by assumption) (Fr.keep (by assumption))) ?_)))
local macro_rules | `(tactic| walk_at "getMethod ref") => `(tactic| k_dflt (refine' meth_at ?f ?g ?s ?k1 ?k2 ?k3 ?k4 ?_; (case f => assumption); (case g => assumption); (case s => first | assumption | exact SetIs.stays (by assumption) (Fr.keep (by assumption))); (case k1 => k_is); (case k2 => k_is); (case k3 => k_is); (case k4 => decide)))
local macro_rules | `(tactic| walk_at "eval Name") => `(tactic| k_dflt (first
  | (refine' nameX_L ?hf ?hv ?_; (case hf => assumption); (case hv => first | (with_unfolding_all rfl) | (with_unfolding_all assumption)))
  | (refine name_B (by assumption) (by assumption) (by k_is) (by first | exact boot_reversed | exact boot_list | exact boot_range | exact boot_tuple | rfl) (by decide) ?_)
  | (refine name_G (by assumption) (by assumption) (by k_is) ?_)))
local macro_rules | `(tactic| walk_at "m_mem") => `(tactic| first | exact List.Mem.head _ | assumption | (apply List.Mem.tail; walk_at "m_mem"))
local macro_rules | `(tactic| walk_at "eval Name") => `(tactic| k_dflt (first
  | (refine' nm_L ?hf ?hv ?_; (case hf => assumption); (case hv => first | (with_unfolding_all rfl) | (with_unfolding_all assumption)))
  | (refine' nm_C ?hn ?hc ?hm ?hd ?_; (case hn => assumption); (case hc => rfl); (case hm => walk_at "m_mem"); (case hd => with_unfolding_all assumption))
  | (refine' nm_F ?hn ?hc ?hm ?hd ?_; (case hn => assumption); (case hc => rfl); (case hm => walk_at "m_mem"); (case hd => with_unfolding_all assumption))
  | (refine nm_B (by assumption) (by assumption) (by k_is) (by first | exact boot_reversed | exact boot_list | exact boot_range | exact boot_tuple | rfl) (by decide) ?_)
  | (refine nm_G (by assumption) (by assumption) (by k_is) ?_)))
local macro_rules | `(tactic| walk_at "getAttr ref") => `(tactic| ((with_reducible show wpAny _ _ (getAttr _ (PySem.Str.ofString "__class__") _) _ _ _); k_dflt (refine class_at (by assumption) (by assumption) (SetIs.stays (by assumption) (Fr.keep (by assumption))) ?_)))
local macro_rules | `(tactic| walk_at "m_suf") => `(tactic| repeat' (first | exact suf_self _ | assumption | apply suf_cons))
local macro_rules | `(tactic| walk_at "eval ListComp") => `(tactic| k_dflt (refine start_comp _ (by intro _; rfl) (by rfl) rfl (by decide) ?_))
local macro_rules | `(tactic| walk_at "exec Assign cons ListComp") => `(tactic| k_dflt (refine wpAny_Assign_Name ?_))
-- BODY
section
variable {w : World} {A : Around} {s : Shared} {h₀ : Heap} {Q : Value → Shared → Prop} {E : Value → Shared → Prop} {M : Model} {env : Env} {C c : Addr} {o : Obj} {m : Str → Option Value} {news : List (Addr × Obj)} {x : Str} {v : Value}
/-- a store into a cell -/
theorem st_cell {Q : Unit → Shared → Prop} {v₀ : Option Value} (F : Fr h₀ C s.heap m) (N : News h₀ C s.heap news) (hc : env.cells.lookup x = some c) (hm : (c, o) ∈ news) (hd : o.data = .cell v₀)
    (h : ∀ h' o', Fr h₀ C h' m → o'.data = .cell (some v) → h'.get? c = some o' → Off [c] s.heap h' → Q () { s with heap := h' })
    (hx : env.kindOf x = some .cell := by rfl) (hk : env.scope.kind = .function := by rfl) : wpAny M A (storeName env x v) Q E s := by
  refine wpAny_storeName_cell hk hx hc ⟨o, N.get hm, hd⟩ fun h' hv hs => ?_
  obtain ⟨o', ho', hd'⟩ := hv
  have k := off_same hs
  exact h h' o' (fr_off1 F N hm k) hd' ho' k
end
section
variable {h₀ h h' : Heap} {L b : Addr} {led rest : List (Addr × Obj)} {o1 o2 o3 o4 o5 o6 o7 o' : Obj} {x : Int} {t : Tok} {ep : Nat} {ps : Array Value}
theorem lj {L : Addr} {i j : Nat} (h : i < j) : L + i ≠ L + j := Nat.ne_of_lt (Nat.add_lt_add_left h L)
theorem led_c1 (N : News h₀ L h (led0 L b o1 o2 o3 o4 o5 o6 o7 x t ep ps rest)) (k : Off [L + 1] h h') (e : h'.get? (L + 1) = some o') (hr : ∀ p ∈ rest, p.1 ≠ L + 1) (lt : Ap L b) (low : 74 < L) : News h₀ L h' (led0 L b o' o2 o3 o4 o5 o6 o7 x t ep ps rest) :=
  news_put (pre := []) (post := (L + 2, o2) :: (L + 3, o3) :: (L + 4, o4) :: (L + 5, o5) :: (L + 6, o6) :: (L + 7, o7) :: (b, listOf #[.int x t] ep) :: (74, tabObj ps) :: rest) N k e (fun _ h => nomatch h) (by
    simp only [List.forall_mem_cons]
    exact ⟨(lj (by decide)).symm, (lj (by decide)).symm, (lj (by decide)).symm, (lj (by decide)).symm, (lj (by decide)).symm, (lj (by decide)).symm, (lt.ne _ (by decide)).symm, Nat.ne_of_lt (Nat.lt_of_lt_of_le low (Nat.le_add_right _ _)), hr⟩)
theorem led_c2 (N : News h₀ L h (led0 L b o1 o2 o3 o4 o5 o6 o7 x t ep ps rest)) (k : Off [L + 2] h h') (e : h'.get? (L + 2) = some o') (hr : ∀ p ∈ rest, p.1 ≠ L + 2) (lt : Ap L b) (low : 74 < L) : News h₀ L h' (led0 L b o1 o' o3 o4 o5 o6 o7 x t ep ps rest) :=
  news_put (pre := [(L + 1, o1)]) (post := (L + 3, o3) :: (L + 4, o4) :: (L + 5, o5) :: (L + 6, o6) :: (L + 7, o7) :: (b, listOf #[.int x t] ep) :: (74, tabObj ps) :: rest) N k e (by
    simp only [List.forall_mem_cons]
    exact ⟨lj (by decide), fun _ h => nomatch h⟩) (by
    simp only [List.forall_mem_cons]
    exact ⟨(lj (by decide)).symm, (lj (by decide)).symm, (lj (by decide)).symm, (lj (by decide)).symm, (lj (by decide)).symm, (lt.ne _ (by decide)).symm, Nat.ne_of_lt (Nat.lt_of_lt_of_le low (Nat.le_add_right _ _)), hr⟩)
theorem led_c3 (N : News h₀ L h (led0 L b o1 o2 o3 o4 o5 o6 o7 x t ep ps rest)) (k : Off [L + 3] h h') (e : h'.get? (L + 3) = some o') (hr : ∀ p ∈ rest, p.1 ≠ L + 3) (lt : Ap L b) (low : 74 < L) : News h₀ L h' (led0 L b o1 o2 o' o4 o5 o6 o7 x t ep ps rest) :=
  news_put (pre := [(L + 1, o1), (L + 2, o2)]) (post := (L + 4, o4) :: (L + 5, o5) :: (L + 6, o6) :: (L + 7, o7) :: (b, listOf #[.int x t] ep) :: (74, tabObj ps) :: rest) N k e (by
    simp only [List.forall_mem_cons]
    exact ⟨lj (by decide), lj (by decide), fun _ h => nomatch h⟩) (by
    simp only [List.forall_mem_cons]
    exact ⟨(lj (by decide)).symm, (lj (by decide)).symm, (lj (by decide)).symm, (lj (by decide)).symm, (lt.ne _ (by decide)).symm, Nat.ne_of_lt (Nat.lt_of_lt_of_le low (Nat.le_add_right _ _)), hr⟩)
theorem led_c4 (N : News h₀ L h (led0 L b o1 o2 o3 o4 o5 o6 o7 x t ep ps rest)) (k : Off [L + 4] h h') (e : h'.get? (L + 4) = some o') (hr : ∀ p ∈ rest, p.1 ≠ L + 4) (lt : Ap L b) (low : 74 < L) : News h₀ L h' (led0 L b o1 o2 o3 o' o5 o6 o7 x t ep ps rest) :=
  news_put (pre := [(L + 1, o1), (L + 2, o2), (L + 3, o3)]) (post := (L + 5, o5) :: (L + 6, o6) :: (L + 7, o7) :: (b, listOf #[.int x t] ep) :: (74, tabObj ps) :: rest) N k e (by
    simp only [List.forall_mem_cons]
    exact ⟨lj (by decide), lj (by decide), lj (by decide), fun _ h => nomatch h⟩) (by
    simp only [List.forall_mem_cons]
    exact ⟨(lj (by decide)).symm, (lj (by decide)).symm, (lj (by decide)).symm, (lt.ne _ (by decide)).symm, Nat.ne_of_lt (Nat.lt_of_lt_of_le low (Nat.le_add_right _ _)), hr⟩)
theorem led_c5 (N : News h₀ L h (led0 L b o1 o2 o3 o4 o5 o6 o7 x t ep ps rest)) (k : Off [L + 5] h h') (e : h'.get? (L + 5) = some o') (hr : ∀ p ∈ rest, p.1 ≠ L + 5) (lt : Ap L b) (low : 74 < L) : News h₀ L h' (led0 L b o1 o2 o3 o4 o' o6 o7 x t ep ps rest) :=
  news_put (pre := [(L + 1, o1), (L + 2, o2), (L + 3, o3), (L + 4, o4)]) (post := (L + 6, o6) :: (L + 7, o7) :: (b, listOf #[.int x t] ep) :: (74, tabObj ps) :: rest) N k e (by
    simp only [List.forall_mem_cons]
    exact ⟨lj (by decide), lj (by decide), lj (by decide), lj (by decide), fun _ h => nomatch h⟩) (by
    simp only [List.forall_mem_cons]
    exact ⟨(lj (by decide)).symm, (lj (by decide)).symm, (lt.ne _ (by decide)).symm, Nat.ne_of_lt (Nat.lt_of_lt_of_le low (Nat.le_add_right _ _)), hr⟩)
theorem led_c6 (N : News h₀ L h (led0 L b o1 o2 o3 o4 o5 o6 o7 x t ep ps rest)) (k : Off [L + 6] h h') (e : h'.get? (L + 6) = some o') (hr : ∀ p ∈ rest, p.1 ≠ L + 6) (lt : Ap L b) (low : 74 < L) : News h₀ L h' (led0 L b o1 o2 o3 o4 o5 o' o7 x t ep ps rest) :=
  news_put (pre := [(L + 1, o1), (L + 2, o2), (L + 3, o3), (L + 4, o4), (L + 5, o5)]) (post := (L + 7, o7) :: (b, listOf #[.int x t] ep) :: (74, tabObj ps) :: rest) N k e (by
    simp only [List.forall_mem_cons]
    exact ⟨lj (by decide), lj (by decide), lj (by decide), lj (by decide), lj (by decide), fun _ h => nomatch h⟩) (by
    simp only [List.forall_mem_cons]
    exact ⟨(lj (by decide)).symm, (lt.ne _ (by decide)).symm, Nat.ne_of_lt (Nat.lt_of_lt_of_le low (Nat.le_add_right _ _)), hr⟩)
theorem led_c7 (N : News h₀ L h (led0 L b o1 o2 o3 o4 o5 o6 o7 x t ep ps rest)) (k : Off [L + 7] h h') (e : h'.get? (L + 7) = some o') (hr : ∀ p ∈ rest, p.1 ≠ L + 7) (lt : Ap L b) (low : 74 < L) : News h₀ L h' (led0 L b o1 o2 o3 o4 o5 o6 o' x t ep ps rest) :=
  news_put (pre := [(L + 1, o1), (L + 2, o2), (L + 3, o3), (L + 4, o4), (L + 5, o5), (L + 6, o6)]) (post := (b, listOf #[.int x t] ep) :: (74, tabObj ps) :: rest) N k e (by
    simp only [List.forall_mem_cons]
    exact ⟨lj (by decide), lj (by decide), lj (by decide), lj (by decide), lj (by decide), lj (by decide), fun _ h => nomatch h⟩) (by
    simp only [List.forall_mem_cons]
    exact ⟨(lt.ne _ (by decide)).symm, Nat.ne_of_lt (Nat.lt_of_lt_of_le low (Nat.le_add_right _ _)), hr⟩)
end
theorem list_copy {prog : Program} {w : World} {A : Around} {E : Value → Shared → Prop} {s : Shared} {h₀ : Heap} {L l : Addr} {m : Str → Option Value} {news : List (Addr × Obj)} {items : Array Value} {Q : Value → Shared → Prop}
    (F : Fr h₀ L s.heap m) (N : News h₀ L s.heap news) (hl : s.heap.IsList l items) (hsz : items.size ≤ 1000)
    (h : ∀ D h' c, Fr h₀ L h' m → News h₀ L h' ((D, listOf items c) :: news) → s.heap.get? D = none → Heap.StaysIn s.heap h' → Q (.ref D) { s with heap := h' }) :
    wpAny (model prog w) A (call (.type "list") [.ref l]) Q E s := by
  obtain ⟨o, ho, hc, n, hd⟩ := id hl
  refine call_list_seq l (.inl rfl) ho hc hd (fun h' c' k e => ?_) (by rw [sizeLine_eq]; omega)
  have f : s.heap.get? s.heap.objs.size = none := none_of_ge (fun _ _ e => e) (Nat.le_refl _)
  exact h _ h' c' (F.keeps k) (news_new F N k f e) f k
end Mine

end

open PySem PySem.W PyProof.Rows in
example : True := by
  w_top off
  trivial
open PySem PySem.W PyProof.Rows in
example {M : Model} {A : Around} {E : Value → Shared → Prop} {s : Shared} {Q : Unit → Shared → Prop} (h : Q () s) : wpAny M A (pure ()) Q E s := by
  first
    | (walk1; exact h)
    | exact wpAny_pure h
section
open PySem PySem.W PyProof.Rows PySem.Calls PyProof.Rows.LCg
set_option Elab.async false
set_option maxRecDepth 100000
set_option maxHeartbeats 4000000
set_option linter.unusedVariables false
set_option pp.deepTerms.threshold 5
set_option pp.maxSteps 2000
namespace Mine
-- HEAD
example : PySem.Challenge.rw_vk0007_01 = PySem.Challenge.rw_vk0007_01 ∧ hd.heap_39 = hd.heap_39 := by
  k_fill
  exact ⟨rfl, rfl⟩
local macro_rules | `(tactic| walk_at "getAttr ref") => `(tactic| ((with_reducible show wpAny _ _ (getAttr _ (PySem.Str.ofString "_items") _) _ _ _); k_dflt (refine items_at (by assumption) (by assumption) (SetIs.stays (by assumption) (Fr.keep (by assumption))) ?_)))
local macro_rules | `(tactic| walk_at "getMethod ref") => `(tactic| k_dflt (refine' meth_at ?f ?g ?s ?k1 ?k2 ?k3 ?k4 ?_; (case f => assumption); (case g => assumption); (case s => first | assumption | exact SetIs.stays (by assumption) (Fr.keep (by assumption))); (case k1 => k_is); (case k2 => k_is); (case k3 => k_is); (case k4 => decide)))
local macro_rules | `(tactic| walk_at "eval Name") => `(tactic| k_dflt (first
  | (refine' nameX_L ?hf ?hv ?_; (case hf => assumption); (case hv => first | (with_unfolding_all rfl) | (with_unfolding_all assumption)))
  | (refine name_B (by assumption) (by assumption) (by k_is) (by first | exact boot_reversed | exact boot_list | exact boot_range | exact boot_tuple | rfl) (by decide) ?_)
  | (refine name_G (by assumption) (by assumption) (by k_is) ?_)))
local macro_rules | `(tactic| walk_at "m_mem") => `(tactic| first | exact List.Mem.head _ | assumption | (apply List.Mem.tail; walk_at "m_mem"))
local macro_rules | `(tactic| walk_at "eval Name") => `(tactic| k_dflt (first
  | (refine' nm_L ?hf ?hv ?_; (case hf => assumption); (case hv => first | (with_unfolding_all rfl) | (with_unfolding_all assumption)))
  | (refine' nm_C ?hn ?hc ?hm ?hd ?_; (case hn => assumption); (case hc => rfl); (case hm => walk_at "m_mem"); (case hd => with_unfolding_all assumption))
  | (refine' nm_F ?hn ?hc ?hm ?hd ?_; (case hn => assumption); (case hc => rfl); (case hm => walk_at "m_mem"); (case hd => with_unfolding_all assumption))
  | (refine nm_B (by assumption) (by assumption) (by k_is) (by first | exact boot_reversed | exact boot_list | exact boot_range | exact boot_tuple | rfl) (by decide) ?_)
  | (refine nm_G (by assumption) (by assumption) (by k_is) ?_)))
local macro_rules | `(tactic| walk_at "getAttr ref") => `(tactic| ((with_reducible show wpAny _ _ (getAttr _ (PySem.Str.ofString "__class__") _) _ _ _); k_dflt (refine class_at (by assumption) (by assumption) (SetIs.stays (by assumption) (Fr.keep (by assumption))) ?_)))
local macro_rules | `(tactic| walk_at "m_suf") => `(tactic| repeat' (first | exact suf_self _ | assumption | apply suf_cons))
local macro_rules | `(tactic| walk_at "eval ListComp") => `(tactic| k_dflt (refine start_comp _ (by intro _; rfl) (by rfl) rfl (by decide) ?_))
local macro_rules | `(tactic| walk_at "exec Assign cons ListComp") => `(tactic| k_dflt (refine wpAny_Assign_Name ?_))
-- BODY
/-- what one draw of «other» tells -/
structure Tell (tx : Bool) (g : Heap) (e : List Nat × Addr × Value) (y : Value) : Prop where
  at_ : ∃ T, y = .ref T ∧ g.get? T = some (tupOf [.ref e.2.1, e.2.2])
  told : ∃ ws, g.IsList e.2.1 ws ∧ Ths tx e.1 ws.toList
  small : e.1.length < 10
  oth : Oth tx g e.1 e.2.2
theorem Tell.stays {tx : Bool} {g g' : Heap} {e : List Nat × Addr × Value} {y : Value} (t : Tell tx g e y) (k : Heap.StaysIn g g') : Tell tx g' e y := by
  obtain ⟨⟨T, e1, e2⟩, ⟨ws, e3, e4⟩, sm, o⟩ := t
  exact ⟨⟨T, e1, k _ _ e2⟩, ⟨ws, upS k e3, e4⟩, sm, o.stays k⟩
inductive Tells (tx : Bool) (g : Heap) : List (List Nat × Addr × Value) → List Value → Prop
  | nil : Tells tx g [] []
  | cons {e y es ys} : Tell tx g e y → Tells tx g es ys → Tells tx g (e :: es) (y :: ys)
theorem Tells.stays {tx : Bool} {g g' : Heap} {es : List (List Nat × Addr × Value)} {ys : List Value} (t : Tells tx g es ys) (k : Heap.StaysIn g g') : Tells tx g' es ys := by
  induction t with
  | nil => exact .nil
  | cons a _ ih => exact .cons (a.stays k) ih
theorem Tells.snoc {tx : Bool} {g : Heap} {es : List (List Nat × Addr × Value)} {ys : List Value} {e : List Nat × Addr × Value} {y : Value} (t : Tells tx g es ys) (a : Tell tx g e y) : Tells tx g (es ++ [e]) (ys ++ [y]) := by
  induction t with
  | nil => exact .cons a .nil
  | cons b _ ih => exact .cons b ih
theorem Tells.len {tx : Bool} {g : Heap} {es : List (List Nat × Addr × Value)} {ys : List Value} (t : Tells tx g es ys) : es.length = ys.length := by
  induction t with
  | nil => rfl
  | cons b _ ih => simp [ih]
theorem Tells.get {tx : Bool} {g : Heap} {es : List (List Nat × Addr × Value)} {ys : List Value} (t : Tells tx g es ys) : ∀ {i : Nat} {y : Value}, ys[i]? = some y → ∃ e, es[i]? = some e ∧ Tell tx g e y := by
  induction t with
  | nil => intro i y e; simp at e
  | cons a _ ih =>
    intro i y e
    cases i with
    | zero => simp at e; subst e; exact ⟨_, by simp, a⟩
    | succ i => simpa using ih (by simpa using e)
theorem Tells.row {tx : Bool} {g : Heap} {es : List (List Nat × Addr × Value)} {ys : List Value} (t : Tells tx g es ys) {j : Nat} {e : List Nat × Addr × Value} (he : es[j]? = some e) : ∃ vs, g.IsList e.2.1 vs ∧ Ths tx e.1 vs.toList ∧ e.1.length < 10 := by
  obtain ⟨y, hy⟩ : ∃ y, ys[j]? = some y := ⟨_, List.getElem?_eq_getElem (by rw [← t.len]; exact (List.getElem?_eq_some_iff.mp he).1)⟩
  obtain ⟨e', q1, q2⟩ := t.get hy
  rw [he] at q1; cases q1
  obtain ⟨vs, a, c⟩ := q2.told
  exact ⟨vs, a, c, q2.small⟩
theorem Tells.oths {tx : Bool} {g : Heap} {es : List (List Nat × Addr × Value)} {ys : List Value} (t : Tells tx g es ys) : Oths tx g (es.map (·.1)) (es.map (·.2.2)) := by
  induction t with
  | nil => exact .nil
  | cons a _ ih => exact .cons a.oth ih
section
variable {w : World} {A : Around} {s : Shared} {mg mb : Str → Option Value} {Q : Flow → Shared → Prop} {E : Value → Shared → Prop} {h₀ : Heap} {L b : Addr} {m : Str → Option Value} {g : Heap} {s₁ : Shared} {ps : Array Value}
theorem seg9 {v3 v4 v5 v6 v7 : Option Value} {tx : Bool}
    (G : Gr w mg mb h₀) (R : Rm A 10) (T : St h₀ L b g s₁ ps (some (.ref b)) (some (.bool tx)) v3 v4 v5 v6 v7 s m)
    (next : ∀ s' g' m' O es ys, St h₀ L b g' s₁ ps (some (.ref b)) (some (.bool tx)) v3 v4 v5 v6 v7 s' m' → Heap.StaysIn g g' → m' "others" = some (.ref O) → g'.IsList O ys.toArray → Tells tx g' es ys → es.length < 4 → m' "things" = m "things" → wpAny (model PySem.Challenge.rw_vk0007_01.row.prog w) A (execs (tl w.params 10) (lawEnv w.params L)) Q E s') :
    wpAny (model PySem.Challenge.rw_vk0007_01.row.prog w) A (execs (tl w.params 9) (lawEnv w.params L)) Q E s := by
  obtain ⟨F, ⟨o1, o2, o3, o4, o5, o6, o7, xb, tb, ep, N, d1, d2, d3, d4, d5, d6, d7⟩, ap, hb, hlow, hbare, hos⟩ := id T
  have KX := G.K
  have apb : g.get? b = none := ap b (by simp)
  conv in tl w.params 9 => unfold tl lawAt
  conv in lawEnv w.params L => unfold lawEnv lawAt
  simp only [List.drop]
  walk1
  refine start_compU _ (by with_unfolding_all rfl) (by intro _; rfl) (by rfl) rfl (by decide) ?_
  repeat' walk1
  refine draw_spec G F.keep (R.less (by omega)) (N (b, _) (by walk_at "m_mem")).1 (N (b, _) (by walk_at "m_mem")).2.2 (by decide) (by decide) ?_
  intro h₂ tk₂ t₂ t₂' k₂ e₂
  have F₂ := fr_off1 F N (l := b) (by walk_at "m_mem") k₂
  have N₂ := led_bag N k₂ e₂ (pairs_ne apb) hb hlow
  clear F N
  have hc0 := Int.emod_nonneg xb (b := 4) (by decide)
  have hc1 := Int.emod_lt_of_pos xb (b := 4) (by decide)
  generalize xb % 4 = cnt at hc0 hc1
  repeat' walk1
  rename IsRange _ _ _ _ _ _ _ _ => hrg
  rename Fr _ _ _ _ => F₅
  rename News _ _ _ _ => N₅
  refine comp_rangeR (n := cnt.toNat) R.hh (MkC.none (by decide) rfl) (fun C i ys news => ∃ x t gi es, news = led0 L b o1 o2 o3 o4 o5 o6 o7 x t ep ps (pairs gi) ∧ Heap.StaysIn g gi ∧ (∀ a ∈ Wl L b, gi.get? a = none) ∧ Tells tx gi es ys ∧ es.length = i) hrg (small_one (by omega) (by omega) (by omega) (by omega)) (by rw [rangeSize_nat]; omega) (by omega) F₅ N₅ (fun C _ => ⟨_, _, g, [], rfl, fun _ _ e => e, ap, .nil, rfl⟩) ?_ ?_
  · rintro C k t ys m₁ news₁ h₆ tk₆ I oI D₆ oL hk ⟨x₁, t₁, gi, es, rfl, kgi, api, tls, tln⟩ hyl hoL F₆ N₆ hoff hap
    clear F₅ N₅
    refine wpAny_assign_Name ?_
    refine st_L F₆ N₆ ?_
    intro h₇ F₇ N₇
    clear F₆ N₆
    refine wpAny_tests_nil ?_
    repeat' walk1
    have hbm : (b, listOf #[.int x₁ t₁] ep) ∈ led0 L b o1 o2 o3 o4 o5 o6 o7 x₁ t₁ ep ps (pairs gi) := by walk_at "m_mem"
    refine other_spec G F₇.keep (R.less (by omega)) (N₇ _ (.tail _ (.tail _ (.tail _ hbm)))).1 (N₇ _ (.tail _ (.tail _ (.tail _ hbm)))).2.2 ?_
    intro h₈ tk₈ x₂ t₂ T₈ a₈ rs ws₈ ep₈ ov k₈ e₈ eT fT ea fa hTh hrl hOth
    have F₈ := fr_off1 F₇ N₇ (.tail _ (.tail _ (.tail _ hbm))) k₈
    obtain ⟨oC, hoC, _⟩ := ns_obj F₇.ns
    obtain ⟨g₈, N₈, ap₈, kk₈, kn₈, off₈⟩ := grow_comp N₇ ⟨_, hoC⟩ F₇.keep hoff api hb hlow k₈ e₈
    have T8 : Tell tx g₈ (rs, a₈, ov) (.ref T₈) := ⟨⟨T₈, rfl, kn₈ _ _ (newer_get fT eT)⟩, ⟨ws₈, ⟨_, kn₈ _ _ (newer_get fa ea), rfl, _, rfl⟩, hTh⟩, hrl, hOth.stays kn₈⟩
    refine ⟨_, _, _, _, rfl, F₈, N₈, off₈, x₂, t₂, g₈, es ++ [(rs, a₈, ov)], rfl, ?_, ap₈, (tls.stays kk₈).snoc T8, by rw [List.length_append, List.length_singleton, tln]⟩
    exact fun q o e => kk₈ _ _ (kgi _ _ e)
  · rintro C D₆ ys m' news₁ h₆ tk₆ ⟨x₁, t₁, gi, es, rfl, kgi, api, tls, tln⟩ F₆ hn hC₀ hCL hDC N₆ off fD
    refine postU (y := PySem.Str.ofString "others") F₆ hn hC₀ hCL hDC N₆ off rfl rfl ?_
    intro h₇ tk₇ F₇ N₇
    obtain ⟨T', kg'⟩ := St.re (L := L) (s' := { s with heap := h₇, toks := tk₇ }) F₇ N₇ (by walk_at "m_suf") ⟨d1, d2, d3, d4, d5, d6, d7⟩ api hb hlow hbare hos
    refine next { s with heap := h₇, toks := tk₇ } _ _ D₆ es ys T' (fun q o e => kg' _ _ (kgi _ _ e)) rfl ⟨_, over_get (N₇ _ (.head _)).1 (N₇ _ (.head _)).2.2 (notW (N₇ _ (.head _)).2.1 fun p hp => (off p hp).1), rfl, _, rfl⟩ (tls.stays kg') (by omega) rfl
end
end Mine

end

open PySem PySem.W PyProof.Rows in
example : True := by
  w_top off
  trivial
open PySem PySem.W PyProof.Rows in
example {M : Model} {A : Around} {E : Value → Shared → Prop} {s : Shared} {Q : Unit → Shared → Prop} (h : Q () s) : wpAny M A (pure ()) Q E s := by
  first
    | (walk1; exact h)
    | exact wpAny_pure h
section
open PySem PySem.W PyProof.Rows PySem.Calls PyProof.Rows.LCg
set_option Elab.async false
set_option maxRecDepth 100000
set_option maxHeartbeats 4000000
set_option linter.unusedVariables false
set_option pp.deepTerms.threshold 5
set_option pp.maxSteps 2000
namespace Mine
-- HEAD
example : PySem.Challenge.rw_vk0007_01 = PySem.Challenge.rw_vk0007_01 ∧ hd.heap_39 = hd.heap_39 := by
  k_fill
  exact ⟨rfl, rfl⟩
local macro_rules | `(tactic| walk_at "getAttr ref") => `(tactic| ((with_reducible show wpAny _ _ (getAttr _ (PySem.Str.ofString "_items") _) _ _ _); k_dflt (refine items_at (by assumption) (by assumption) (SetIs.stays (by assumption) (Fr.keep (by assumption))) ?_)))
local macro_rules | `(tactic| walk_at "getMethod ref") => `(tactic| k_dflt (refine' meth_at ?f ?g ?s ?k1 ?k2 ?k3 ?k4 ?_; (case f => assumption); (case g => assumption); (case s => first | assumption | exact SetIs.stays (by assumption) (Fr.keep (by assumption))); (case k1 => k_is); (case k2 => k_is); (case k3 => k_is); (case k4 => decide)))
local macro_rules | `(tactic| walk_at "eval Name") => `(tactic| k_dflt (first
  | (refine' nameX_L ?hf ?hv ?_; (case hf => assumption); (case hv => first | (with_unfolding_all rfl) | (with_unfolding_all assumption)))
  | (refine name_B (by assumption) (by assumption) (by k_is) (by first | exact boot_reversed | exact boot_list | exact boot_range | exact boot_tuple | rfl) (by decide) ?_)
  | (refine name_G (by assumption) (by assumption) (by k_is) ?_)))
local macro_rules | `(tactic| walk_at "m_mem") => `(tactic| first | exact List.Mem.head _ | assumption | (apply List.Mem.tail; walk_at "m_mem"))
local macro_rules | `(tactic| walk_at "eval Name") => `(tactic| k_dflt (first
  | (refine' nm_L ?hf ?hv ?_; (case hf => assumption); (case hv => first | (with_unfolding_all rfl) | (with_unfolding_all assumption)))
  | (refine' nm_C ?hn ?hc ?hm ?hd ?_; (case hn => assumption); (case hc => rfl); (case hm => walk_at "m_mem"); (case hd => with_unfolding_all assumption))
  | (refine' nm_F ?hn ?hc ?hm ?hd ?_; (case hn => assumption); (case hc => rfl); (case hm => walk_at "m_mem"); (case hd => with_unfolding_all assumption))
  | (refine nm_B (by assumption) (by assumption) (by k_is) (by first | exact boot_reversed | exact boot_list | exact boot_range | exact boot_tuple | rfl) (by decide) ?_)
  | (refine nm_G (by assumption) (by assumption) (by k_is) ?_)))
local macro_rules | `(tactic| walk_at "getAttr ref") => `(tactic| ((with_reducible show wpAny _ _ (getAttr _ (PySem.Str.ofString "__class__") _) _ _ _); k_dflt (refine class_at (by assumption) (by assumption) (SetIs.stays (by assumption) (Fr.keep (by assumption))) ?_)))
local macro_rules | `(tactic| walk_at "m_suf") => `(tactic| repeat' (first | exact suf_self _ | assumption | apply suf_cons))
local macro_rules | `(tactic| walk_at "eval ListComp") => `(tactic| k_dflt (refine start_comp _ (by intro _; rfl) (by rfl) rfl (by decide) ?_))
local macro_rules | `(tactic| walk_at "exec Assign cons ListComp") => `(tactic| k_dflt (refine wpAny_Assign_Name ?_))
-- BODY
section
variable {w : World} {A : Around} {s : Shared} {mg mb : Str → Option Value} {Q : Flow → Shared → Prop} {E : Value → Shared → Prop} {h₀ : Heap} {L b : Addr} {m : Str → Option Value} {g : Heap} {s₁ : Shared} {ps : Array Value}
theorem seg10 {v2 v3 v4 v5 v6 v7 : Option Value} {tx : Bool} {O : Addr} {es : List (List Nat × Addr × Value)} {ys : List Value}
    (G : Gr w mg mb h₀) (R : Rm A 10) (T : St h₀ L b g s₁ ps (some (.ref b)) v2 v3 v4 v5 v6 v7 s m)
    (hO : m "others" = some (.ref O)) (hl : g.IsList O ys.toArray) (hT : Tells tx g es ys) (hlen : es.length < 4)
    (next : ∀ s' g' m' V, St h₀ L b g' s₁ ps (some (.ref b)) v2 v3 v4 v5 v6 v7 s' m' → Heap.StaysIn g g' → m' "every" = some (.ref V) → g'.IsList V (es.map (·.2.2)).toArray → m' "things" = m "things" → m' "others" = m "others" → wpAny (model PySem.Challenge.rw_vk0007_01.row.prog w) A (execs (tl w.params 11) (lawEnv w.params L)) Q E s') :
    wpAny (model PySem.Challenge.rw_vk0007_01.row.prog w) A (execs (tl w.params 10) (lawEnv w.params L)) Q E s := by
  obtain ⟨F, ⟨o1, o2, o3, o4, o5, o6, o7, xb, tb, ep, N, d1, d2, d3, d4, d5, d6, d7⟩, ap, hb, hlow, hbare, hos⟩ := id T
  have KX := G.K
  have kg := stands N (by walk_at "m_suf")
  have hln := hT.len
  obtain ⟨oO, eO, cO⟩ := id hl
  conv in tl w.params 10 => unfold tl lawAt
  conv in lawEnv w.params L => unfold lawEnv lawAt
  simp only [List.drop]
  walk1
  refine start_compU _ (by with_unfolding_all rfl) (by intro _; rfl) (by rfl) rfl (by decide) ?_
  walk1
  refine comp_listR R.hh (MkC.none (by decide) rfl) (fun C i ys' news => news = led0 L b o1 o2 o3 o4 o5 o6 o7 xb tb ep ps (pairs g) ∧ ys' = (es.map (·.2.2)).take i) (upS kg hl) (kg _ _ eO) (by rw [List.size_toArray]; omega)
    (fun C i ys' h news _ hm e => hm (O, oO) (by rw [e.1]; exact led_suf.subset (mem_pairs.mpr eO))) F N (fun C _ => ⟨rfl, rfl⟩) ?_ ?_
  · rintro C k v ys' m₁ news₁ h₆ tk₆ I oI D₆ oL hk ⟨rfl, rfl⟩ hyl hoL F₆ N₆ hoff hap
    clear F N
    obtain ⟨e, he, Te⟩ := hT.get (i := k) (y := v) (by simpa using hk)
    obtain ⟨⟨T₁, rfl, eT⟩, _⟩ := Te
    have kg₆ := stands N₆ (by walk_at "m_suf")
    refine unpackN_ F₆ N₆ ⟨_, kg₆ _ _ eT, rfl, _, rfl⟩ R.hh rfl rfl ?_
    intro h₇ F₇ N₇
    clear F₆ N₆ kg₆
    repeat' walk1
    refine st_L F₇ N₇ ?_
    intro h₈ F₈ N₈
    repeat' walk1
    refine st_L F₈ N₈ ?_
    intro h₉ F₉ N₉
    repeat' walk1
    exact ⟨_, _, _, _, rfl, F₉, N₉, hoff, rfl, by rw [List.take_add_one, List.getElem?_map, he]; rfl⟩
  · rintro C D₆ ys' m' news₁ h₆ tk₆ ⟨rfl, rfl⟩ F₆ hn hC₀ hCL hDC N₆ off fD
    refine postU (y := PySem.Str.ofString "every") F₆ hn hC₀ hCL hDC N₆ off rfl rfl ?_
    intro h₇ tk₇ F₇ N₇
    have hys : (es.map (·.2.2)).take ys.toArray.size = es.map (·.2.2) := List.take_of_length_le (by rw [List.length_map, List.size_toArray]; omega)
    rw [hys] at N₇
    obtain ⟨T', kg'⟩ := St.re (L := L) (s' := { s with heap := h₇, toks := tk₇ }) F₇ N₇ (by walk_at "m_suf") ⟨d1, d2, d3, d4, d5, d6, d7⟩ ap hb hlow hbare hos
    refine next { s with heap := h₇, toks := tk₇ } _ _ D₆ T' kg' rfl ⟨_, over_get (N₇ _ (.head _)).1 (N₇ _ (.head _)).2.2 (notW (N₇ _ (.head _)).2.1 fun p hp => (off p hp).1), rfl, _, rfl⟩ rfl rfl
theorem seg11 {v2 v3 v4 v5 v6 v7 : Option Value} {tx : Bool} {O : Addr} {es : List (List Nat × Addr × Value)} {ys : List Value}
    (G : Gr w mg mb h₀) (R : Rm A 10) (T : St h₀ L b g s₁ ps (some (.ref b)) v2 v3 v4 v5 v6 v7 s m)
    (hO : m "others" = some (.ref O)) (hl : g.IsList O ys.toArray) (hT : Tells tx g es ys) (hlen : es.length < 4)
    (next : ∀ s' g' m' V, St h₀ L b g' s₁ ps (some (.ref b)) v2 v3 v4 v5 (some (.ref V)) v7 s' m' → Heap.StaysIn g g' → g'.IsList V (es.map fun e => Value.ref e.2.1).toArray → m' "things" = m "things" → m' "others" = m "others" → m' "every" = m "every" → wpAny (model PySem.Challenge.rw_vk0007_01.row.prog w) A (execs (tl w.params 12) (lawEnv w.params L)) Q E s') :
    wpAny (model PySem.Challenge.rw_vk0007_01.row.prog w) A (execs (tl w.params 11) (lawEnv w.params L)) Q E s := by
  obtain ⟨F, ⟨o1, o2, o3, o4, o5, o6, o7, xb, tb, ep, N, d1, d2, d3, d4, d5, d6, d7⟩, ap, hb, hlow, hbare, hos⟩ := id T
  have KX := G.K
  have kg := stands N (by walk_at "m_suf")
  have hln := hT.len
  obtain ⟨oO, eO, cO⟩ := id hl
  conv in tl w.params 11 => unfold tl lawAt
  conv in lawEnv w.params L => unfold lawEnv lawAt
  simp only [List.drop]
  walk1
  refine wpAny_Assign_Name ?_
  refine start_comp _ (by intro _; rfl) (by rfl) rfl (by decide) ?_
  walk1
  refine comp_list R.hh (MkC.none (by decide) rfl) (fun C i ys' news => news = led0 L b o1 o2 o3 o4 o5 o6 o7 xb tb ep ps (pairs g) ∧ ys' = (es.map fun e => Value.ref e.2.1).take i) (upS kg hl) (kg _ _ eO) (by rw [List.size_toArray]; omega)
    (fun C i ys' h news _ hm e => hm (O, oO) (by rw [e.1]; exact led_suf.subset (mem_pairs.mpr eO))) F N (fun C _ => ⟨rfl, rfl⟩) ?_ ?_
  · rintro C k v ys' m₁ news₁ h₆ tk₆ I oI D₆ oL hk ⟨rfl, rfl⟩ hyl hoL F₆ N₆ hoff hap
    clear F N
    obtain ⟨e, he, Te⟩ := hT.get (i := k) (y := v) (by simpa using hk)
    obtain ⟨⟨T₁, rfl, eT⟩, _⟩ := Te
    have kg₆ := stands N₆ (by walk_at "m_suf")
    refine unpackN_ F₆ N₆ ⟨_, kg₆ _ _ eT, rfl, _, rfl⟩ R.hh rfl rfl ?_
    intro h₇ F₇ N₇
    clear F₆ N₆ kg₆
    repeat' walk1
    refine st_L F₇ N₇ ?_
    intro h₈ F₈ N₈
    repeat' walk1
    refine st_L F₈ N₈ ?_
    intro h₉ F₉ N₉
    repeat' walk1
    exact ⟨_, _, _, _, rfl, F₉, N₉, hoff, rfl, by rw [List.take_add_one, List.getElem?_map, he]; rfl⟩
  · rintro C D₆ ys' news₁ h₆ tk₆ ⟨rfl, rfl⟩ F₆ N₆ off fD
    have hys : (es.map fun e => Value.ref e.2.1).take ys.toArray.size = es.map fun e => Value.ref e.2.1 := List.take_of_length_le (by rw [List.length_map, List.size_toArray]; omega)
    rw [hys] at N₆
    refine st_cell (c := L + 6) F₆ N₆ rfl (by walk_at "m_mem") d6 ?_
    intro h₇ o' F₇ d' e' k₇
    have apc : g.get? (L + 6) = none := ap _ (by simp)
    have N₇ := led_c6 (fun p hp => N₆ p (.tail _ hp)) k₇ e' (pairs_ne apc) hb hlow
    have N₇' : News h₀ L h₇ ((D₆, lst (es.map fun e => Value.ref e.2.1)) :: led0 L b o1 o2 o3 o4 o5 o' o7 xb tb ep ps (pairs g)) := fun p hp => by
      rcases List.mem_cons.mp hp with rfl | hp
      · exact ⟨k₇ _ _ (fun q => off (L + 6, o6) (by walk_at "m_mem") (List.mem_singleton.mp q).symm) (N₆ _ (.head _)).1, (N₆ _ (.head _)).2⟩
      · exact N₇ p hp
    obtain ⟨T', kg'⟩ := St.re (L := L) (s' := { s with heap := h₇, toks := tk₆ }) F₇ N₇' (by walk_at "m_suf") ⟨d1, d2, d3, d4, d5, d', d7⟩ ap hb hlow hbare hos
    refine next { s with heap := h₇, toks := tk₆ } _ _ D₆ T' kg' ⟨_, over_get (N₇' _ (.head _)).1 (N₇' _ (.head _)).2.2 (notW (N₇' _ (.head _)).2.1 off), rfl, _, rfl⟩ rfl rfl rfl
end
end Mine

end

open PySem PySem.W PyProof.Rows in
example : True := by
  w_top off
  trivial
open PySem PySem.W PyProof.Rows in
example {M : Model} {A : Around} {E : Value → Shared → Prop} {s : Shared} {Q : Unit → Shared → Prop} (h : Q () s) : wpAny M A (pure ()) Q E s := by
  first
    | (walk1; exact h)
    | exact wpAny_pure h
section
open PySem PySem.W PyProof.Rows PySem.Calls PyProof.Rows.LCg
set_option Elab.async false
set_option maxRecDepth 100000
set_option maxHeartbeats 4000000
set_option linter.unusedVariables false
set_option pp.deepTerms.threshold 5
set_option pp.maxSteps 2000
namespace Mine
-- HEAD
example : PySem.Challenge.rw_vk0007_01 = PySem.Challenge.rw_vk0007_01 ∧ hd.heap_39 = hd.heap_39 := by
  k_fill
  exact ⟨rfl, rfl⟩
local macro_rules | `(tactic| walk_at "getAttr ref") => `(tactic| ((with_reducible show wpAny _ _ (getAttr _ (PySem.Str.ofString "_items") _) _ _ _); k_dflt (refine items_at (by assumption) (by assumption) (SetIs.stays (by assumption) (Fr.keep (by assumption))) ?_)))
local macro_rules | `(tactic| walk_at "getMethod ref") => `(tactic| k_dflt (refine' meth_at ?f ?g ?s ?k1 ?k2 ?k3 ?k4 ?_; (case f => assumption); (case g => assumption); (case s => first | assumption | exact SetIs.stays (by assumption) (Fr.keep (by assumption))); (case k1 => k_is); (case k2 => k_is); (case k3 => k_is); (case k4 => decide)))
local macro_rules | `(tactic| walk_at "eval Name") => `(tactic| k_dflt (first
  | (refine' nameX_L ?hf ?hv ?_; (case hf => assumption); (case hv => first | (with_unfolding_all rfl) | (with_unfolding_all assumption)))
  | (refine name_B (by assumption) (by assumption) (by k_is) (by first | exact boot_reversed | exact boot_list | exact boot_range | exact boot_tuple | rfl) (by decide) ?_)
  | (refine name_G (by assumption) (by assumption) (by k_is) ?_)))
local macro_rules | `(tactic| walk_at "m_mem") => `(tactic| first | exact List.Mem.head _ | assumption | (apply List.Mem.tail; walk_at "m_mem"))
local macro_rules | `(tactic| walk_at "eval Name") => `(tactic| k_dflt (first
  | (refine' nm_L ?hf ?hv ?_; (case hf => assumption); (case hv => first | (with_unfolding_all rfl) | (with_unfolding_all assumption)))
  | (refine' nm_C ?hn ?hc ?hm ?hd ?_; (case hn => assumption); (case hc => rfl); (case hm => walk_at "m_mem"); (case hd => with_unfolding_all assumption))
  | (refine' nm_F ?hn ?hc ?hm ?hd ?_; (case hn => assumption); (case hc => rfl); (case hm => walk_at "m_mem"); (case hd => with_unfolding_all assumption))
  | (refine nm_B (by assumption) (by assumption) (by k_is) (by first | exact boot_reversed | exact boot_list | exact boot_range | exact boot_tuple | rfl) (by decide) ?_)
  | (refine nm_G (by assumption) (by assumption) (by k_is) ?_)))
local macro_rules | `(tactic| walk_at "getAttr ref") => `(tactic| ((with_reducible show wpAny _ _ (getAttr _ (PySem.Str.ofString "__class__") _) _ _ _); k_dflt (refine class_at (by assumption) (by assumption) (SetIs.stays (by assumption) (Fr.keep (by assumption))) ?_)))
local macro_rules | `(tactic| walk_at "m_suf") => `(tactic| repeat' (first | exact suf_self _ | assumption | apply suf_cons))
local macro_rules | `(tactic| walk_at "eval ListComp") => `(tactic| k_dflt (refine start_comp _ (by intro _; rfl) (by rfl) rfl (by decide) ?_))
local macro_rules | `(tactic| walk_at "exec Assign cons ListComp") => `(tactic| k_dflt (refine wpAny_Assign_Name ?_))
-- BODY
section
variable {w : World} {A : Around} {s : Shared} {mg mb : Str → Option Value} {Q : Flow → Shared → Prop} {E : Value → Shared → Prop} {h₀ : Heap} {L b : Addr} {m : Str → Option Value} {g : Heap} {s₁ : Shared} {ps : Array Value}
theorem seg12 {v2 v3 v4 v5 v7 : Option Value} {tx : Bool} {es : List (List Nat × Addr × Value)} {ys : List Value} {Tg Rw : Addr} {rs : List Nat} {ts : Array Value}
    (G : Gr w mg mb h₀) (R : Rm A 10) (T : St h₀ L b g s₁ ps (some (.ref b)) v2 v3 v4 v5 (some (.ref Rw)) v7 s m)
    (hT : Tells tx g es ys) (hlen : es.length < 4) (hRw : g.IsList Rw (es.map fun e => Value.ref e.2.1).toArray)
    (hTg : m "things" = some (.ref Tg)) (hl : g.IsList Tg ts) (hTh : Ths tx rs ts.toList) (hrs : rs.length < 10)
    (next : ∀ s' g' m' U ws, St h₀ L b g' s₁ ps (some (.ref b)) v2 v3 v4 v5 (some (.ref Rw)) v7 s' m' → Heap.StaysIn g g' → m' "union" = some (.ref U) → g'.IsList U ws → Ths tx (rs ++ (es.map (·.1)).flatten) ws.toList →
      m' "things" = m "things" → m' "others" = m "others" → m' "every" = m "every" → wpAny (model PySem.Challenge.rw_vk0007_01.row.prog w) A (execs (tl w.params 14) (lawEnv w.params L)) Q E s') :
    wpAny (model PySem.Challenge.rw_vk0007_01.row.prog w) A (execs (tl w.params 12) (lawEnv w.params L)) Q E s := by
  obtain ⟨F, ⟨o1, o2, o3, o4, o5, o6, o7, xb, tb, ep, N, d1, d2, d3, d4, d5, d6, d7⟩, ap, hb, hlow, hbare, hos⟩ := id T
  have KX := G.K
  have kg := stands N (by walk_at "m_suf")
  have hn : rs.length = ts.size := hTh.len.trans (Array.length_toList (xs := ts))
  obtain ⟨oR, eR, cR⟩ := id hRw
  conv in tl w.params 12 => unfold tl lawAt
  conv in lawEnv w.params L => unfold lawEnv lawAt
  simp only [List.drop]
  repeat' walk1
  refine list_copy F N (upS kg hl) (by omega) ?_
  intro U₂ h₂ c₂ F₂ N₂ f₂ k₂
  have hU₂ := news_fresh N f₂
  clear F N
  refine st_L F₂ N₂ ?_
  intro h₃ F₃ N₃
  clear F₂ N₂
  walk1
  walk1
  refine wpAny_For ?_
  walk1
  have kg₃ := stands N₃ (by walk_at "m_suf")
  refine iter_list (oax := oR) R.hh (fun i m' news => ∃ U ws ep', m' "union" = some (.ref U) ∧ news = (U, listOf ws ep') :: led0 L b o1 o2 o3 o4 o5 o6 o7 xb tb ep ps (pairs g) ∧ (∀ p ∈ led0 L b o1 o2 o3 o4 o5 o6 o7 xb tb ep ps (pairs g), p.1 ≠ U) ∧ Ths tx (rs ++ ((es.map (·.1)).take i).flatten) ws.toList ∧ ws.size ≤ 10 + 10 * i ∧ m' "things" = m "things" ∧ m' "others" = m "others" ∧ m' "every" = m "every")
    (upS kg₃ hRw) (fun i h m' news F' N' e => ?_) F₃ N₃ ⟨U₂, ts, c₂, rfl, rfl, ?_, ?_, by omega, rfl, rfl, rfl⟩ ?_ ?_
  · obtain ⟨U, ws, ep', _, rfl, _⟩ := e
    exact (N' (Rw, oR) (.tail _ (led_suf.subset (mem_pairs.mpr eR)))).1
  · exact fun p hp q => hU₂ p hp (List.mem_singleton.mpr q)
  · simpa using hTh
  · rintro i v m₁ news₁ h₅ tk₅ I oI hi ⟨U, ws, ep', e1, rfl, hU, e2, e3, e4, e5, e6⟩ F₅ N₅ hI
    clear F₃ N₃ kg₃
    obtain ⟨e, he, rfl⟩ : ∃ e, es[i]? = some e ∧ v = Value.ref e.2.1 := by
      rw [List.getElem?_toArray, List.getElem?_map] at hi
      cases q : es[i]? with
      | none => rw [q] at hi; cases hi
      | some e => rw [q] at hi; cases hi; exact ⟨e, rfl, rfl⟩
    have kg₅ := stands N₅ (by walk_at "m_suf")
    have Te : ∃ vs, g.IsList e.2.1 vs ∧ Ths tx e.1 vs.toList ∧ e.1.length < 10 := by
      obtain ⟨y, hy⟩ : ∃ y, ys[i]? = some y := ⟨_, List.getElem?_eq_getElem (by rw [← hT.len]; exact (List.getElem?_eq_some_iff.mp he).1)⟩
      obtain ⟨e', q1, q2⟩ := hT.get hy
      rw [he] at q1; cases q1
      obtain ⟨vs, a, c⟩ := q2.told
      exact ⟨vs, a, c, q2.small⟩
    obtain ⟨rv, hrv, hTr, hl10⟩ := Te
    have hnr : e.1.length = rv.size := hTr.len.trans (Array.length_toList (xs := rv))
    have hi4 : i < 4 := Nat.lt_trans (List.getElem?_eq_some_iff.mp he).1 hlen
    refine wpAny_assign_Name ?_
    refine st_L F₅ N₅ ?_
    intro h₆ F₆ N₆
    clear F₅ N₅
    repeat' walk1
    have kg₆ := stands N₆ (by walk_at "m_suf")
    refine cat_l F₆ N₆ (listAt (N₆.get (.tail _ (.head _)))) (upS kg₆ hrv) (by omega) ?_
    intro D₇ h₇ F₇ N₇ l₇ f₇
    clear F₆ N₆ kg₆
    refine st_L F₇ N₇ ?_
    intro h₈ F₈ N₈
    clear F₇ N₇
    repeat' walk1
    refine TurnEnd.intro F₈ (news' := (D₇, listOf (ws ++ rv) 0) :: led0 L b o1 o2 o3 o4 o5 o6 o7 xb tb ep ps (pairs g)) (fun p hp => ?_) (fun p hp => ?_) ⟨D₇, ws ++ rv, 0, rfl, rfl, fun p hp => Nat.ne_of_lt (l₇ p (.tail _ (.tail _ hp))), ?_, ?_, e4, e5, e6⟩
    · rcases List.mem_cons.mp hp with rfl | hp
      · exact N₈ _ (.tail _ (.head _))
      rcases List.mem_cons.mp hp with rfl | hp
      · exact N₈ _ (.head _)
      exact N₈ _ (.tail _ (.tail _ (.tail _ hp)))
    · rcases List.mem_cons.mp hp with rfl | hp
      · exact Nat.ne_of_gt (l₇ (I, oI) (.head _))
      exact hI p (.tail _ hp)
    · rw [List.take_add_one, List.getElem?_map, he, List.flatten_append, Array.toList_append, ← List.append_assoc]
      exact e2.append (by simpa using hTr)
    · rw [Array.size_append]; omega
  · rintro m₁ news₁ h₅ tk₅ ⟨U, ws, ep', e1, rfl, hU, e2, e3, e4, e5, e6⟩ F₅ N₅
    obtain ⟨T', kg'⟩ := St.re (L := L) (s' := { s with heap := h₅, toks := tk₅ }) F₅ N₅ (by walk_at "m_suf") ⟨d1, d2, d3, d4, d5, d6, d7⟩ ap hb hlow hbare hos
    rw [List.take_of_length_le (by rw [List.length_map, List.size_toArray, List.length_map]; exact Nat.le_refl _)] at e2
    exact next { s with heap := h₅, toks := tk₅ } _ _ U ws T' kg' e1 ⟨_, over_get (N₅ _ (.head _)).1 (N₅ _ (.head _)).2.2 (notW (N₅ _ (.head _)).2.1 hU), rfl, _, rfl⟩ e2 e4 e5 e6
end
end Mine

end

open PySem PySem.W PyProof.Rows in
example : True := by
  w_top off
  trivial
open PySem PySem.W PyProof.Rows in
example {M : Model} {A : Around} {E : Value → Shared → Prop} {s : Shared} {Q : Unit → Shared → Prop} (h : Q () s) : wpAny M A (pure ()) Q E s := by
  first
    | (walk1; exact h)
    | exact wpAny_pure h
section
open PySem PySem.W PyProof.Rows PySem.Calls PyProof.Rows.LCg
set_option Elab.async false
set_option maxRecDepth 100000
set_option maxHeartbeats 4000000
set_option linter.unusedVariables false
set_option pp.deepTerms.threshold 5
set_option pp.maxSteps 2000
namespace Mine
-- HEAD
example : PySem.Challenge.rw_vk0007_01 = PySem.Challenge.rw_vk0007_01 ∧ hd.heap_39 = hd.heap_39 := by
  k_fill
  exact ⟨rfl, rfl⟩
local macro_rules | `(tactic| walk_at "getAttr ref") => `(tactic| ((with_reducible show wpAny _ _ (getAttr _ (PySem.Str.ofString "_items") _) _ _ _); k_dflt (refine items_at (by assumption) (by assumption) (SetIs.stays (by assumption) (Fr.keep (by assumption))) ?_)))
local macro_rules | `(tactic| walk_at "getMethod ref") => `(tactic| k_dflt (refine' meth_at ?f ?g ?s ?k1 ?k2 ?k3 ?k4 ?_; (case f => assumption); (case g => assumption); (case s => first | assumption | exact SetIs.stays (by assumption) (Fr.keep (by assumption))); (case k1 => k_is); (case k2 => k_is); (case k3 => k_is); (case k4 => decide)))
local macro_rules | `(tactic| walk_at "eval Name") => `(tactic| k_dflt (first
  | (refine' nameX_L ?hf ?hv ?_; (case hf => assumption); (case hv => first | (with_unfolding_all rfl) | (with_unfolding_all assumption)))
  | (refine name_B (by assumption) (by assumption) (by k_is) (by first | exact boot_reversed | exact boot_list | exact boot_range | exact boot_tuple | rfl) (by decide) ?_)
  | (refine name_G (by assumption) (by assumption) (by k_is) ?_)))
local macro_rules | `(tactic| walk_at "m_mem") => `(tactic| first | exact List.Mem.head _ | assumption | (apply List.Mem.tail; walk_at "m_mem"))
local macro_rules | `(tactic| walk_at "eval Name") => `(tactic| k_dflt (first
  | (refine' nm_L ?hf ?hv ?_; (case hf => assumption); (case hv => first | (with_unfolding_all rfl) | (with_unfolding_all assumption)))
  | (refine' nm_C ?hn ?hc ?hm ?hd ?_; (case hn => assumption); (case hc => rfl); (case hm => walk_at "m_mem"); (case hd => with_unfolding_all assumption))
  | (refine' nm_F ?hn ?hc ?hm ?hd ?_; (case hn => assumption); (case hc => rfl); (case hm => walk_at "m_mem"); (case hd => with_unfolding_all assumption))
  | (refine nm_B (by assumption) (by assumption) (by k_is) (by first | exact boot_reversed | exact boot_list | exact boot_range | exact boot_tuple | rfl) (by decide) ?_)
  | (refine nm_G (by assumption) (by assumption) (by k_is) ?_)))
local macro_rules | `(tactic| walk_at "getAttr ref") => `(tactic| ((with_reducible show wpAny _ _ (getAttr _ (PySem.Str.ofString "__class__") _) _ _ _); k_dflt (refine class_at (by assumption) (by assumption) (SetIs.stays (by assumption) (Fr.keep (by assumption))) ?_)))
local macro_rules | `(tactic| walk_at "m_suf") => `(tactic| repeat' (first | exact suf_self _ | assumption | apply suf_cons))
local macro_rules | `(tactic| walk_at "eval ListComp") => `(tactic| k_dflt (refine start_comp _ (by intro _; rfl) (by rfl) rfl (by decide) ?_))
local macro_rules | `(tactic| walk_at "exec Assign cons ListComp") => `(tactic| k_dflt (refine wpAny_Assign_Name ?_))
-- BODY
section
variable {w : World} {A : Around} {s : Shared} {mg mb : Str → Option Value} {Q : Value → Shared → Prop} {E : Value → Shared → Prop} {h₀ : Heap} {L : Addr} {m : Str → Option Value} {news : List (Addr × Obj)} {env : Env}
/-- a method called with all that a list holds -/
theorem call_star {o e : PySem.Expr} {p pos apos : Pos} {x l V f : Addr} {name : Str} {its : Array Value} (F : Fr h₀ L s.heap m) (G : Gr w mg mb h₀) (N : News h₀ L s.heap news) (S : SetIs s.heap x l) (hV : ∀ h', News h₀ L h' news → h'.IsList V its) (hsz : its.size ≤ 1000)
    (hg : plainGet (hd.heap_39 w.params) 306 name = true) (hf : findIn (hd.heap_39 w.params) (.ref 306) name = some (some (.ref f))) (ht : isFn (hd.heap_39 w.params) (.ref f) = true) (hfn : fnIn (hd.heap_39 w.params) f = true)
    (hgf : specialIn (hd.heap_39 w.params) (.ref f) "__get__" = some (some (.builtin "function.__get__"))) (htk : takesIn (hd.heap_39 w.params) (.ref f) = some false) (hhd : hasDictIn (hd.heap_39 w.params) 306 = true) (hc : copiedNames.contains name = false) (hn : (("_items" : Str) == name) = false)
    (ho : ∀ (Q : Value → Shared → Prop) E, Q (.ref x) s → wpAny (model PySem.Challenge.rw_vk0007_01.row.prog w) A (eval o env) Q E s)
    (he : ∀ (s' : Shared) (news' : List (Addr × Obj)) (Q : Value → Shared → Prop) E, Fr h₀ L s'.heap m → News h₀ L s'.heap (news' ++ news) → Q (.ref V) s' → wpAny (model PySem.Challenge.rw_vk0007_01.row.prog w) A (eval e env) Q E s')
    (h : ∀ h' tk q, Fr h₀ L h' m → News h₀ L h' ((q, methodObj (.ref f) (.ref x)) :: news) →
      codeAny (model PySem.Challenge.rw_vk0007_01.row.prog w) A (.call (.ref f) ⟨.ref x :: its.toList, []⟩) (fun r s' => match r with | .ok (.ret v) => Q v s' | .ok _ => False | .error e => E e s') { s with heap := h', toks := tk })
    (hev : eval (.Call (.Attribute o name apos) [.Starred e p] [] pos) env = (do
      let ov ← eval o env
      standAt apos.atName
      let (f, first) ← holding [ov] (do pure (← getAttr ov name true, []))
      let callPos ← (pure pos : Sem Pos)
      callWith callPos f first (backTo pos (starEach [.Starred e p] env)) []) := by rfl) :
    wpAny (model PySem.Challenge.rw_vk0007_01.row.prog w) A (eval (.Call (.Attribute o name apos) [.Starred e p] [] pos) env) Q E s := by
  rw [hev]
  have X₀ := G.K
  obtain ⟨dx, hsh, tk, n, h1, h2⟩ := id S
  have I : InstAt s.heap x (instObj 306 dx) 306 (some (itemsDict hsh tk l n)) := ⟨h1, rfl, rfl, h2⟩
  refine wpAny_bind (ho _ _ (wpAny_bind (wpAny_standAt (wpAny_bind (wpAny_holding (wpAny_bind ?_))))))
  refine kbm_bound F X₀ N I hg hhd hf ht hgf htk hc (items_not hsh tk l hn) fun q h' F' N' lq => ?_
  refine wpAny_pure ?_
  refine wpAny_bind (wpAny_pure ?_)
  have hmp : MethP (hd.heap_39 w.params) q f (.ref x) h' := methP N' (.head _) (X₀.keeps F'.keep)
  refine ks_call (P := MethP (hd.heap_39 w.params) q f (.ref x)) rfl (keeps_M hfn) (ks_lone ?_)
  refine he { s with heap := h', toks := s.toks + 1 } [(q, methodObj (.ref f) (.ref x))] _ _ F' N' ?_
  obtain ⟨oV, eV, cV, nV, dV⟩ := hV h' fun p hp => N' p (.tail _ hp)
  have hT' : ({ s with heap := h', toks := s.toks + 1 } : Shared).TypeIs (.ref V) "list" := ⟨oV, eV, cV⟩
  unfold StarOf notIterableAtAll
  refine wpAny_bind (wpAny_specialOf hT' PySem.F.slot_list_iter.lookup (wpAny_pure ⟨rfl, ?_⟩))
  refine wpAny_collect_seq V (.inl rfl) eV cV dV (fun h'' k => ?_) (by rw [sizeLine_eq]; omega)
  have F'' := F'.keeps k
  have N'' := N'.keeps k
  exact ⟨methP N'' (.head _) (X₀.keeps F''.keep), call_meth N'' (.head _) (h h'' _ q F'' N'')⟩
end
end Mine

end

open PySem PySem.W PyProof.Rows in
example : True := by
  w_top off
  trivial
open PySem PySem.W PyProof.Rows in
example {M : Model} {A : Around} {E : Value → Shared → Prop} {s : Shared} {Q : Unit → Shared → Prop} (h : Q () s) : wpAny M A (pure ()) Q E s := by
  first
    | (walk1; exact h)
    | exact wpAny_pure h
section
open PySem PySem.W PyProof.Rows PySem.Calls PyProof.Rows.LCg
set_option Elab.async false
set_option maxRecDepth 100000
set_option maxHeartbeats 4000000
set_option linter.unusedVariables false
set_option pp.deepTerms.threshold 5
set_option pp.maxSteps 2000
namespace Mine
-- HEAD
example : PySem.Challenge.rw_vk0007_01 = PySem.Challenge.rw_vk0007_01 ∧ hd.heap_39 = hd.heap_39 := by
  k_fill
  exact ⟨rfl, rfl⟩
local macro_rules | `(tactic| walk_at "getAttr ref") => `(tactic| ((with_reducible show wpAny _ _ (getAttr _ (PySem.Str.ofString "_items") _) _ _ _); k_dflt (refine items_at (by assumption) (by assumption) (SetIs.stays (by assumption) (Fr.keep (by assumption))) ?_)))
local macro_rules | `(tactic| walk_at "getMethod ref") => `(tactic| k_dflt (refine' meth_at ?f ?g ?s ?k1 ?k2 ?k3 ?k4 ?_; (case f => assumption); (case g => assumption); (case s => first | assumption | exact SetIs.stays (by assumption) (Fr.keep (by assumption))); (case k1 => k_is); (case k2 => k_is); (case k3 => k_is); (case k4 => decide)))
local macro_rules | `(tactic| walk_at "eval Name") => `(tactic| k_dflt (first
  | (refine' nameX_L ?hf ?hv ?_; (case hf => assumption); (case hv => first | (with_unfolding_all rfl) | (with_unfolding_all assumption)))
  | (refine name_B (by assumption) (by assumption) (by k_is) (by first | exact boot_reversed | exact boot_list | exact boot_range | exact boot_tuple | rfl) (by decide) ?_)
  | (refine name_G (by assumption) (by assumption) (by k_is) ?_)))
local macro_rules | `(tactic| walk_at "m_mem") => `(tactic| first | exact List.Mem.head _ | assumption | (apply List.Mem.tail; walk_at "m_mem"))
local macro_rules | `(tactic| walk_at "eval Name") => `(tactic| k_dflt (first
  | (refine' nm_L ?hf ?hv ?_; (case hf => assumption); (case hv => first | (with_unfolding_all rfl) | (with_unfolding_all assumption)))
  | (refine' nm_C ?hn ?hc ?hm ?hd ?_; (case hn => assumption); (case hc => rfl); (case hm => walk_at "m_mem"); (case hd => with_unfolding_all assumption))
  | (refine' nm_F ?hn ?hc ?hm ?hd ?_; (case hn => assumption); (case hc => rfl); (case hm => walk_at "m_mem"); (case hd => with_unfolding_all assumption))
  | (refine nm_B (by assumption) (by assumption) (by k_is) (by first | exact boot_reversed | exact boot_list | exact boot_range | exact boot_tuple | rfl) (by decide) ?_)
  | (refine nm_G (by assumption) (by assumption) (by k_is) ?_)))
local macro_rules | `(tactic| walk_at "getAttr ref") => `(tactic| ((with_reducible show wpAny _ _ (getAttr _ (PySem.Str.ofString "__class__") _) _ _ _); k_dflt (refine class_at (by assumption) (by assumption) (SetIs.stays (by assumption) (Fr.keep (by assumption))) ?_)))
local macro_rules | `(tactic| walk_at "m_suf") => `(tactic| repeat' (first | exact suf_self _ | assumption | apply suf_cons))
local macro_rules | `(tactic| walk_at "eval ListComp") => `(tactic| k_dflt (refine start_comp _ (by intro _; rfl) (by rfl) rfl (by decide) ?_))
local macro_rules | `(tactic| walk_at "exec Assign cons ListComp") => `(tactic| k_dflt (refine wpAny_Assign_Name ?_))
-- BODY
section
variable {w : World} {A : Around} {s : Shared} {mg mb : Str → Option Value} {Q : Flow → Shared → Prop} {E : Value → Shared → Prop} {h₀ : Heap} {L b : Addr} {m : Str → Option Value} {g : Heap} {s₁ : Shared} {ps : Array Value}
theorem seg14 {v2 v3 v5 v6 v7 : Option Value} {tx : Bool} {es : List (List Nat × Addr × Value)} {ys : List Value} {V U x l : Addr} {rs ds : List Nat} {us vs : Array Value}
    (G : Gr w mg mb h₀) (R : Rm A 12) (T : St h₀ L b g s₁ ps (some (.ref b)) v2 v3 (some (.ref x)) v5 v6 v7 s m)
    (S : SetIs g x l) (hl : g.IsList l vs) (hTd : Ths tx ds vs.toList) (hs : ds.Pairwise (· < ·)) (hds : ds = rs.foldl ins [])
    (hT : Tells tx g es ys) (hlen : es.length < 4) (hV : m "every" = some (.ref V)) (hVl : g.IsList V (es.map (·.2.2)).toArray)
    (hU : m "union" = some (.ref U)) (hUl : g.IsList U us) (hTu : Ths tx (rs ++ (es.map (·.1)).flatten) us.toList) (hul : us.size < 200)
    (next : ∀ s' g', St h₀ L b g' s₁ ps (some (.ref b)) v2 v3 (some (.ref x)) v5 v6 v7 s' m → Heap.StaysIn g g' → wpAny (model PySem.Challenge.rw_vk0007_01.row.prog w) A (execs (tl w.params 15) (lawEnv w.params L)) Q E s') :
    wpAny (model PySem.Challenge.rw_vk0007_01.row.prog w) A (execs (tl w.params 14) (lawEnv w.params L)) Q E s := by
  obtain ⟨F, ⟨o1, o2, o3, o4, o5, o6, o7, xb, tb, ep, N, d1, d2, d3, d4, d5, d6, d7⟩, ap, hb, hlow, hbare, hos⟩ := id T
  have KX := G.K
  have kg := stands N (by walk_at "m_suf")
  have Sx := S.stays kg
  conv in tl w.params 14 => unfold tl lawAt
  conv in lawEnv w.params L => unfold lawEnv lawAt
  simp only [List.drop]
  repeat' walk1
  refine call_star (x := x) (V := V) (its := (es.map (·.2.2)).toArray) F G N Sx (fun h' N' => upS (stands N' (by walk_at "m_suf")) hVl) (by rw [List.size_toArray, List.length_map]; omega) (by k_is) (by k_is) (by k_is) (by k_is) (by k_is) (by k_is) (by k_is) (by decide) (by decide)
    (fun Q E q => nm_C N rfl (by walk_at "m_mem") d4 q) (fun s' news' Q E F' N' q => nm_L F' hV q) ?_
  intro h₂ tk₂ q₂ F₂ N₂
  have kg₂ := stands N₂ (by walk_at "m_suf")
  clear F N kg
  refine union_code (s := { s with heap := h₂, toks := tk₂ }) (ovs := es.map (·.2.2)) G F₂.keep (R.less (by omega)) (S.stays kg₂) (upS kg₂ hl) hTd hs (hT.oths.stays kg₂) (by rw [List.length_map]; omega) ?_
  intro h₃ tk₃ x₃ dx₃ l₃ Y₃
  dsimp only
  obtain ⟨hsh₃, tkd₃, nd₃, vs₃, ep₃, hT₃, N₃, -⟩ := Y₃.news F₂ N₂
  have F₃ := F₂.keeps Y₃.keep
  have kg₃ := stands N₃ (by walk_at "m_suf")
  clear F₂ N₂ kg₂
  obtain ⟨oU, eU, cU⟩ := id hUl
  repeat' walk1
  refine sorted_spec G F₃.keep (R.less (by omega)) (upS kg₃ hUl) (kg₃ _ _ eU) hTu (by have := hTu.len.trans (Array.length_toList (xs := us)); omega) ?_
  intro h₄ tk₄ B₄ ws₄ ep₄ k₄ f₄ e₄ T₄
  have F₄ := F₃.keeps k₄
  have N₄ := news_new F₃ N₃ k₄ f₄ e₄
  clear F₃ N₃ kg₃
  repeat' walk1
  refine isset_spec G F₄.keep (R.less (by omega)) (Y₃.is.stays k₄) (listAt (N₄.get (.tail _ (.head _)))) hT₃ (by have := hT₃.len9 (insAll_sorted hs); omega) (listAt (N₄.get (.head _))) T₄ (by have := T₄.len9 (insAll_sorted .nil); omega) ?_
  intro h₅ tk₅ k₅
  have F₅ := F₄.keeps k₅
  have N₅ := N₄.keeps k₅
  clear F₄ N₄
  rw [show ((es.map (·.1)).flatten.foldl ins ds == (rs ++ (es.map (·.1)).flatten).foldl ins []) = true by rw [List.foldl_append, ← hds]; exact beq_self_eq_true _]
  iterate 3 walk1
  obtain ⟨T', kg'⟩ := St.re (s' := { s with heap := h₅, toks := tk₅ }) F₅ N₅ (by walk_at "m_suf") ⟨d1, d2, d3, d4, d5, d6, d7⟩ ap hb hlow hbare hos
  exact next _ _ T' kg'
end
end Mine

end

open PySem PySem.W PyProof.Rows in
example : True := by
  w_top off
  trivial
open PySem PySem.W PyProof.Rows in
example {M : Model} {A : Around} {E : Value → Shared → Prop} {s : Shared} {Q : Unit → Shared → Prop} (h : Q () s) : wpAny M A (pure ()) Q E s := by
  first
    | (walk1; exact h)
    | exact wpAny_pure h
section
open PySem PySem.W PyProof.Rows PySem.Calls PyProof.Rows.LCg
set_option Elab.async false
set_option maxRecDepth 100000
set_option maxHeartbeats 4000000
set_option linter.unusedVariables false
set_option pp.deepTerms.threshold 5
set_option pp.maxSteps 2000
namespace Mine
-- HEAD
example : PySem.Challenge.rw_vk0007_01 = PySem.Challenge.rw_vk0007_01 ∧ hd.heap_39 = hd.heap_39 := by
  k_fill
  exact ⟨rfl, rfl⟩
local macro_rules | `(tactic| walk_at "getAttr ref") => `(tactic| ((with_reducible show wpAny _ _ (getAttr _ (PySem.Str.ofString "_items") _) _ _ _); k_dflt (refine items_at (by assumption) (by assumption) (SetIs.stays (by assumption) (Fr.keep (by assumption))) ?_)))
local macro_rules | `(tactic| walk_at "getMethod ref") => `(tactic| k_dflt (refine' meth_at ?f ?g ?s ?k1 ?k2 ?k3 ?k4 ?_; (case f => assumption); (case g => assumption); (case s => first | assumption | exact SetIs.stays (by assumption) (Fr.keep (by assumption))); (case k1 => k_is); (case k2 => k_is); (case k3 => k_is); (case k4 => decide)))
local macro_rules | `(tactic| walk_at "eval Name") => `(tactic| k_dflt (first
  | (refine' nameX_L ?hf ?hv ?_; (case hf => assumption); (case hv => first | (with_unfolding_all rfl) | (with_unfolding_all assumption)))
  | (refine name_B (by assumption) (by assumption) (by k_is) (by first | exact boot_reversed | exact boot_list | exact boot_range | exact boot_tuple | rfl) (by decide) ?_)
  | (refine name_G (by assumption) (by assumption) (by k_is) ?_)))
local macro_rules | `(tactic| walk_at "m_mem") => `(tactic| first | exact List.Mem.head _ | assumption | (apply List.Mem.tail; walk_at "m_mem"))
local macro_rules | `(tactic| walk_at "eval Name") => `(tactic| k_dflt (first
  | (refine' nm_L ?hf ?hv ?_; (case hf => assumption); (case hv => first | (with_unfolding_all rfl) | (with_unfolding_all assumption)))
  | (refine' nm_C ?hn ?hc ?hm ?hd ?_; (case hn => assumption); (case hc => rfl); (case hm => walk_at "m_mem"); (case hd => with_unfolding_all assumption))
  | (refine' nm_F ?hn ?hc ?hm ?hd ?_; (case hn => assumption); (case hc => rfl); (case hm => walk_at "m_mem"); (case hd => with_unfolding_all assumption))
  | (refine nm_B (by assumption) (by assumption) (by k_is) (by first | exact boot_reversed | exact boot_list | exact boot_range | exact boot_tuple | rfl) (by decide) ?_)
  | (refine nm_G (by assumption) (by assumption) (by k_is) ?_)))
local macro_rules | `(tactic| walk_at "getAttr ref") => `(tactic| ((with_reducible show wpAny _ _ (getAttr _ (PySem.Str.ofString "__class__") _) _ _ _); k_dflt (refine class_at (by assumption) (by assumption) (SetIs.stays (by assumption) (Fr.keep (by assumption))) ?_)))
local macro_rules | `(tactic| walk_at "m_suf") => `(tactic| repeat' (first | exact suf_self _ | assumption | apply suf_cons))
local macro_rules | `(tactic| walk_at "eval ListComp") => `(tactic| k_dflt (refine start_comp _ (by intro _; rfl) (by rfl) rfl (by decide) ?_))
local macro_rules | `(tactic| walk_at "exec Assign cons ListComp") => `(tactic| k_dflt (refine wpAny_Assign_Name ?_))
-- BODY
/-- a comprehension's frame with one cell -/
theorem MkC.one {scope : Scope} {env : Env} {cl : List (Str × Addr)} (nm : Str) (hk : scope.kind = .function) (hone : ∀ n, cellsFrom n scope.names cl = (nm, n) :: cl) (hpush : ∀ h : Heap, pushCells h scope.names = h.push (cellObj Option.none)) :
    MkC scope (fun C => (nm, C + 1) :: cl) (fun C => [(C + 1, cellObj Option.none)]) env cl where
  make := fun M A s Q E h => by
    simp only [newFunctionEnv, Option.isSome_some, if_true]
    refine wpAny_bind (wpAny_alloc ?_)
    refine wpAny_bind (wpAny_layCells _ (fun name kind cells => by cases hkc : kind == NameKind.cell <;> simp [hkc]) _ _ _ _ ?_)
    rw [show ({ s with heap := s.heap.push { cls := .type "dict", data := .dict #[] } } : Shared).heap.objs.size = s.heap.objs.size + 1 from Heap.size_push ..]
    rw [hone, List.forIn_nil]
    refine wpAny_bind (wpAny_pure (wpAny_pure ?_))
    rw [hpush]
    refine h _ s.toks ((Heap.Ns.new s.heap (.type "dict")).keeps fun b o e => Heap.get?_push_of_some _ e) (fun b o e => Heap.get?_push_of_some _ (Heap.get?_push_of_some _ e)) fun p hp => ?_
    rw [List.mem_singleton.mp hp]
    have := Heap.get?_push_size (h := s.heap.push { cls := .type "dict", data := .dict #[] }) (o := cellObj Option.none) rfl
    rw [Heap.size_push] at this
    exact this
  lt := fun C p hp => by rw [List.mem_singleton.mp hp]; exact Nat.lt_succ_self _
end Mine

end

open PySem PySem.W PyProof.Rows in
example : True := by
  w_top off
  trivial
open PySem PySem.W PyProof.Rows in
example {M : Model} {A : Around} {E : Value → Shared → Prop} {s : Shared} {Q : Unit → Shared → Prop} (h : Q () s) : wpAny M A (pure ()) Q E s := by
  first
    | (walk1; exact h)
    | exact wpAny_pure h
section
open PySem PySem.W PyProof.Rows PySem.Calls PyProof.Rows.LCg
set_option Elab.async false
set_option maxRecDepth 100000
set_option maxHeartbeats 4000000
set_option linter.unusedVariables false
set_option pp.deepTerms.threshold 5
set_option pp.maxSteps 2000
namespace Mine
-- HEAD
example : PySem.Challenge.rw_vk0007_01 = PySem.Challenge.rw_vk0007_01 ∧ hd.heap_39 = hd.heap_39 := by
  k_fill
  exact ⟨rfl, rfl⟩
local macro_rules | `(tactic| walk_at "getAttr ref") => `(tactic| ((with_reducible show wpAny _ _ (getAttr _ (PySem.Str.ofString "_items") _) _ _ _); k_dflt (refine items_at (by assumption) (by assumption) (SetIs.stays (by assumption) (Fr.keep (by assumption))) ?_)))
local macro_rules | `(tactic| walk_at "getMethod ref") => `(tactic| k_dflt (refine' meth_at ?f ?g ?s ?k1 ?k2 ?k3 ?k4 ?_; (case f => assumption); (case g => assumption); (case s => first | assumption | exact SetIs.stays (by assumption) (Fr.keep (by assumption))); (case k1 => k_is); (case k2 => k_is); (case k3 => k_is); (case k4 => decide)))
local macro_rules | `(tactic| walk_at "eval Name") => `(tactic| k_dflt (first
  | (refine' nameX_L ?hf ?hv ?_; (case hf => assumption); (case hv => first | (with_unfolding_all rfl) | (with_unfolding_all assumption)))
  | (refine name_B (by assumption) (by assumption) (by k_is) (by first | exact boot_reversed | exact boot_list | exact boot_range | exact boot_tuple | rfl) (by decide) ?_)
  | (refine name_G (by assumption) (by assumption) (by k_is) ?_)))
local macro_rules | `(tactic| walk_at "m_mem") => `(tactic| first | exact List.Mem.head _ | assumption | (apply List.Mem.tail; walk_at "m_mem"))
local macro_rules | `(tactic| walk_at "eval Name") => `(tactic| k_dflt (first
  | (refine' nm_L ?hf ?hv ?_; (case hf => assumption); (case hv => first | (with_unfolding_all rfl) | (with_unfolding_all assumption)))
  | (refine' nm_C ?hn ?hc ?hm ?hd ?_; (case hn => assumption); (case hc => rfl); (case hm => walk_at "m_mem"); (case hd => with_unfolding_all assumption))
  | (refine' nm_F ?hn ?hc ?hm ?hd ?_; (case hn => assumption); (case hc => rfl); (case hm => walk_at "m_mem"); (case hd => with_unfolding_all assumption))
  | (refine nm_B (by assumption) (by assumption) (by k_is) (by first | exact boot_reversed | exact boot_list | exact boot_range | exact boot_tuple | rfl) (by decide) ?_)
  | (refine nm_G (by assumption) (by assumption) (by k_is) ?_)))
local macro_rules | `(tactic| walk_at "getAttr ref") => `(tactic| ((with_reducible show wpAny _ _ (getAttr _ (PySem.Str.ofString "__class__") _) _ _ _); k_dflt (refine class_at (by assumption) (by assumption) (SetIs.stays (by assumption) (Fr.keep (by assumption))) ?_)))
local macro_rules | `(tactic| walk_at "m_suf") => `(tactic| repeat' (first | exact suf_self _ | assumption | apply suf_cons))
local macro_rules | `(tactic| walk_at "eval ListComp") => `(tactic| k_dflt (refine start_comp _ (by intro _; rfl) (by rfl) rfl (by decide) ?_))
local macro_rules | `(tactic| walk_at "exec Assign cons ListComp") => `(tactic| k_dflt (refine wpAny_Assign_Name ?_))
-- BODY
theorem none_left (es : List (List Nat × Addr × Value)) (q : List Nat × Addr × Value → Bool) : ((es.filter fun e => !q e).length == 0) = es.all q := by
  rw [Bool.eq_iff_iff, beq_iff_eq, List.all_eq_true, List.length_eq_zero_iff, List.filter_eq_nil_iff]
  simp
section
variable {w : World} {A : Around} {s : Shared} {mg mb : Str → Option Value} {Q : Flow → Shared → Prop} {E : Value → Shared → Prop} {h₀ : Heap} {L b : Addr} {m : Str → Option Value} {g : Heap} {s₁ : Shared} {ps : Array Value}
theorem seg15 {v2 v5 v7 : Option Value} {tx : Bool} {es : List (List Nat × Addr × Value)} {ys : List Value} {V x l D Rw : Addr} {ds : List Nat} {vs ws : Array Value}
    (G : Gr w mg mb h₀) (R : Rm A 12) (T : St h₀ L b g s₁ ps (some (.ref b)) v2 (some (.ref D)) (some (.ref x)) v5 (some (.ref Rw)) v7 s m)
    (S : SetIs g x l) (hl : g.IsList l vs) (hTd : Ths tx ds vs.toList) (hs : ds.Pairwise (· < ·)) (hD : g.IsList D ws) (hTD : Ths tx ds ws.toList)
    (hT : Tells tx g es ys) (hlen : es.length < 4) (hV : m "every" = some (.ref V)) (hVl : g.IsList V (es.map (·.2.2)).toArray) (hRw : g.IsList Rw (es.map fun e => Value.ref e.2.1).toArray)
    (next : ∀ s' g', St h₀ L b g' s₁ ps (some (.ref b)) v2 (some (.ref D)) (some (.ref x)) v5 (some (.ref Rw)) v7 s' m → Heap.StaysIn g g' → wpAny (model PySem.Challenge.rw_vk0007_01.row.prog w) A (execs (tl w.params 16) (lawEnv w.params L)) Q E s') :
    wpAny (model PySem.Challenge.rw_vk0007_01.row.prog w) A (execs (tl w.params 15) (lawEnv w.params L)) Q E s := by
  obtain ⟨F, ⟨o1, o2, o3, o4, o5, o6, o7, xb, tb, ep, N, d1, d2, d3, d4, d5, d6, d7⟩, ap, hb, hlow, hbare, hos⟩ := id T
  have KX := G.K
  have kg := stands N (by walk_at "m_suf")
  have Sx := S.stays kg
  have hlen9 := hTd.len9 hs
  have hn : ds.length = vs.size := hTd.len.trans (Array.length_toList (xs := vs))
  have hn' : ds.length = ws.size := hTD.len.trans (Array.length_toList (xs := ws))
  obtain ⟨oD, eD, cD⟩ := id hD
  obtain ⟨oR, eR, cR⟩ := id hRw
  conv in tl w.params 15 => unfold tl lawAt
  conv in lawEnv w.params L => unfold lawEnv lawAt
  simp only [List.drop]
  repeat' walk1
  refine call_star (x := x) (V := V) (its := (es.map (·.2.2)).toArray) F G N Sx (fun h' N' => upS (stands N' (by walk_at "m_suf")) hVl) (by rw [List.size_toArray, List.length_map]; omega) (by k_is) (by k_is) (by k_is) (by k_is) (by k_is) (by k_is) (by k_is) (by decide) (by decide)
    (fun Q E q => nm_C N rfl (by walk_at "m_mem") d4 q) (fun s' news' Q E F' N' q => nm_L F' hV q) ?_
  intro h₂ tk₂ q₂ F₂ N₂
  have kg₂ := stands N₂ (by walk_at "m_suf")
  clear F N kg
  refine intersection_code (s := { s with heap := h₂, toks := tk₂ }) (ovs := es.map (·.2.2)) G F₂.keep (R.less (by omega)) (S.stays kg₂) (upS kg₂ hl) hTd hs (by omega) (hT.oths.stays kg₂) (by rw [List.length_map]; omega) ?_
  intro h₃ tk₃ x₃ dx₃ l₃ Y₃
  dsimp only
  obtain ⟨hsh₃, tkd₃, nd₃, vs₃, ep₃, hT₃, N₃, -⟩ := Y₃.news F₂ N₂
  have F₃ := F₂.keeps Y₃.keep
  clear F₂ N₂ kg₂
  obtain ⟨LED, hLED, hl3, hx3, hdx3, hsl, hm6, hm3, N₃⟩ : ∃ LED, led0 L b o1 o2 o3 o4 o5 o6 o7 xb tb ep ps (pairs g) <:+ LED ∧ (l₃, listOf vs₃ ep₃) ∈ LED ∧ (x₃, instObj 306 dx₃) ∈ LED ∧ (dx₃, itemsDict hsh₃ tkd₃ l₃ nd₃) ∈ LED ∧ pairs g <:+ LED ∧ (L + 6, o6) ∈ LED ∧ (L + 3, o3) ∈ LED ∧ News h₀ L h₃ LED := ⟨_, by walk_at "m_suf", .head _, .tail _ (.head _), .tail _ (.tail _ (.head _)), by walk_at "m_suf", by walk_at "m_mem", by walk_at "m_mem", N₃⟩
  have kg₃ := stands N₃ hsl
  repeat' walk1
  refine comp_list R.hh (MkC.one "thing" rfl (by intro _; rfl) (by intro _; rfl)) (fun C i ys news => ∃ oc v, news = (C + 1, oc) :: LED ∧ oc.data = .cell v ∧ (∀ p ∈ LED, p.1 ≠ C + 1) ∧ Ths tx ((ds.take i).filter fun d => es.all fun e => e.1.contains d) ys) (upS kg₃ hD) (kg₃ _ _ eD) (by omega)
    (fun C i ys h news _ hm e => by
      obtain ⟨_, _, rfl, _⟩ := e
      exact hm (D, oD) (.tail _ (hsl.subset (mem_pairs.mpr eD)))) F₃ N₃ (fun C hC => ⟨_, _, rfl, rfl, fun p hp => Nat.ne_of_lt (Nat.lt_trans (Nat.lt_trans (Heap.lt_size (N₃ p hp).1) hC) (Nat.lt_succ_self C)), .nil⟩) ?_ ?_
  · rintro C i v ys₁ m₄ news₄ h₄ tk₄ I oI D₄ oL hv ⟨oc, v₀, rfl, hoc, hCL, hys⟩ hyl hoL F₄ N₄ hoff hap
    clear F₃ N₃ kg₃
    obtain ⟨d, hd1, hd2⟩ := hTD.get (i := i) (v := v) (by rw [Array.getElem?_toList]; exact hv)
    refine wpAny_assign_Name ?_
    refine st_cell (c := C + 1) F₄ N₄ rfl (by walk_at "m_mem") hoc ?_
    intro h₅ oc' F₅ hoc' e₅ k₅
    have hc1 := hoff (C + 1, oc) (.head _)
    have N₅ : News h₀ C h₅ ((I, oI) :: (D₄, lst ys₁) :: (L, oL) :: (C + 1, oc') :: LED) := news_put (pre := [(I, oI), (D₄, lst ys₁), (L, oL)]) (post := LED) N₄ k₅ e₅ (by
      simp only [List.forall_mem_cons]
      exact ⟨hc1.1.symm, hc1.2.1.symm, hc1.2.2.symm, fun _ h => nomatch h⟩) hCL
    clear F₄ N₄
    refine wpAny_tests_one ?_
    repeat' walk1
    have kg₅ := stands N₅ (by walk_at "m_suf")
    refine comp_list R.hh (MkC.none (by decide) rfl) (fun C' j ys' news => news = (I, oI) :: (D₄, lst ys₁) :: (L, oL) :: (C + 1, oc') :: LED ∧ ys'.length = ((es.take j).filter fun e => !e.1.contains d).length) (upS kg₅ hRw) (kg₅ _ _ eR) (by rw [List.size_toArray, List.length_map]; omega)
      (fun C' j ys' h news _ hm e => by
        obtain ⟨rfl, _⟩ := e
        exact hm (Rw, oR) (.tail _ (.tail _ (.tail _ (.tail _ (hsl.subset (mem_pairs.mpr eR))))))) F₅ N₅ (fun C' _ => ⟨rfl, rfl⟩) ?_ ?_
    · rintro C' j rv ys₂ m₆ news₆ h₆ tk₆ I' oI' D₆ oC hrv ⟨rfl, hys₂⟩ hyl₂ hoC F₆ N₆ hoff₂ hap₂
      clear F₅ N₅ kg₅
      obtain ⟨e, he, rfl⟩ : ∃ e, es[j]? = some e ∧ rv = Value.ref e.2.1 := by
        rw [List.getElem?_toArray, List.getElem?_map] at hrv
        cases q : es[j]? with
        | none => rw [q] at hrv; cases hrv
        | some e => rw [q] at hrv; cases hrv; exact ⟨e, rfl, rfl⟩
      obtain ⟨vr, hvr, hTr, hlr⟩ := Tells.row hT he
      have ef : ((es.take (j + 1)).filter fun e => !e.1.contains d) = ((es.take j).filter fun e => !e.1.contains d) ++ (if (!e.1.contains d) = true then [e] else []) := by
        rw [List.take_add_one, he]; simp [List.filter_append, List.filter_cons]
      refine wpAny_assign_Name ?_
      refine st_L F₆ N₆ ?_
      intro h₇ F₇ N₇
      clear F₆ N₆
      have kg₇ := stands N₇ (by walk_at "m_suf")
      refine wpAny_tests_one ?_
      repeat' walk1
      refine notIn_oth F₇ G (fun _ _ e => e) (R.less (by omega)) (Oth.list (upS kg₇ hvr) hTr (by omega)) hd2 ?_
      intro h₈ tk₈ k₈
      have F₈ := F₇.keeps k₈
      have N₈ := N₇.keeps k₈
      clear F₇ N₇ kg₇
      cases hcr : e.1.contains d with
      | true =>
        repeat' walk1
        exact ⟨_, _, _, _, rfl, F₈, N₈, hoff₂, rfl, by rw [ef, hcr]; simpa using hys₂⟩
      | false =>
        repeat' walk1
        exact ⟨_, _, _, _, rfl, F₈, N₈, hoff₂, rfl, by rw [ef, hcr]; simp [hys₂]⟩
    · rintro C' D₆ ys₂ news₆ h₆ tk₆ ⟨rfl, hys₂⟩ F₆ N₆ off₂ fD₂
      clear F₅ N₅ kg₅
      rw [List.take_of_length_le (by rw [List.size_toArray, List.length_map]; exact Nat.le_refl _)] at hys₂
      repeat' walk1
      rename Fr _ _ _ _ => F₇
      rename News _ _ _ _ => N₇
      refine eq_nil (listAt (N₇.get (.tail _ (.head _)))) (listAt (N₇.get (.head _))) R.units ?_
      have hq : (ys₂.toArray.size == 0) = es.all fun e => e.1.contains d := by
        rw [List.size_toArray, hys₂]
        exact none_left es fun e => e.1.contains d
      rw [hq]
      have N₈ : News h₀ C _ ((I, oI) :: (D₄, lst ys₁) :: (L, oL) :: (C + 1, oc') :: LED) := fun p hp => N₇ p (.tail _ (.tail _ hp))
      clear N₇
      have hoff' : ∀ p ∈ (C + 1, oc') :: LED, p.1 ≠ I ∧ p.1 ≠ D₄ ∧ p.1 ≠ L := fun p hp => by
        rcases List.mem_cons.mp hp with rfl | hp
        · exact hc1
        · exact hoff p (.tail _ hp)
      have ef : ((ds.take (i + 1)).filter fun d => es.all fun e => e.1.contains d) = ((ds.take i).filter fun d => es.all fun e => e.1.contains d) ++ (if (es.all fun e => e.1.contains d) = true then [d] else []) := by
        rw [List.take_add_one, hd1]; simp only [Option.toList_some, List.filter_append, List.filter_cons, List.filter_nil]
      cases hcr : es.all fun e => e.1.contains d with
      | true =>
        repeat' walk1
        exact ⟨_, _, _, _, rfl, F₇, N₈, hoff', oc', _, rfl, hoc', hCL, by rw [ef, if_pos hcr]; exact hys.append (.one hd2)⟩
      | false =>
        repeat' walk1
        exact ⟨_, _, _, _, rfl, F₇, N₈, hoff', oc', _, rfl, hoc', hCL, by rw [ef, if_neg (by rw [hcr]; exact Bool.false_ne_true), List.append_nil]; exact hys⟩
  · rintro C D₄ ys₁ news₄ h₄ tk₄ ⟨oc, v₀, rfl, hoc, hCL, hys⟩ F₄ N₄ off fD
    clear F₃ N₃ kg₃
    repeat' walk1
    rw [List.take_of_length_le (by omega)] at hys
    have S₃ : SetIs h₄ x₃ l₃ := ⟨dx₃, hsh₃, tkd₃, nd₃, N₄.get (.tail _ (.tail _ hx3)), N₄.get (.tail _ (.tail _ hdx3))⟩
    refine isset_spec G F₄.keep (R.less (by omega)) S₃ (listAt (N₄.get (.tail _ (.tail _ hl3)))) hT₃ (by have := List.length_filter_le (fun d => (es.map (·.1)).all fun r => r.contains d) ds; omega) (listAt (N₄.get (.head _))) hys (by have := List.length_filter_le (fun d => es.all fun e => e.1.contains d) ds; omega) ?_
    intro h₅ tk₅ k₅
    have F₅ := F₄.keeps k₅
    have N₅ := N₄.keeps k₅
    clear F₄ N₄
    rw [show ((ds.filter fun d => (es.map (·.1)).all fun r => r.contains d) == (ds.filter fun d => es.all fun e => e.1.contains d)) = true by simp [List.all_map, Function.comp_def]]
    iterate 3 walk1
    obtain ⟨T', kg'⟩ := St.re (L := L) (s' := { s with heap := h₅, toks := tk₅ }) F₅ (fun p hp => N₅ p (.tail _ (.tail _ hp))) hLED ⟨d1, d2, d3, d4, d5, d6, d7⟩ ap hb hlow hbare hos
    exact next _ _ T' kg'
end
end Mine

end

open PySem PySem.W PyProof.Rows in
example : True := by
  w_top off
  trivial
open PySem PySem.W PyProof.Rows in
example {M : Model} {A : Around} {E : Value → Shared → Prop} {s : Shared} {Q : Unit → Shared → Prop} (h : Q () s) : wpAny M A (pure ()) Q E s := by
  first
    | (walk1; exact h)
    | exact wpAny_pure h
section
open PySem PySem.W PyProof.Rows PySem.Calls PyProof.Rows.LCg
set_option Elab.async false
set_option maxRecDepth 100000
set_option maxHeartbeats 4000000
set_option linter.unusedVariables false
set_option pp.deepTerms.threshold 5
set_option pp.maxSteps 2000
namespace Mine
-- HEAD
example : PySem.Challenge.rw_vk0007_01 = PySem.Challenge.rw_vk0007_01 ∧ hd.heap_39 = hd.heap_39 := by
  k_fill
  exact ⟨rfl, rfl⟩
local macro_rules | `(tactic| walk_at "getAttr ref") => `(tactic| ((with_reducible show wpAny _ _ (getAttr _ (PySem.Str.ofString "_items") _) _ _ _); k_dflt (refine items_at (by assumption) (by assumption) (SetIs.stays (by assumption) (Fr.keep (by assumption))) ?_)))
local macro_rules | `(tactic| walk_at "getMethod ref") => `(tactic| k_dflt (refine' meth_at ?f ?g ?s ?k1 ?k2 ?k3 ?k4 ?_; (case f => assumption); (case g => assumption); (case s => first | assumption | exact SetIs.stays (by assumption) (Fr.keep (by assumption))); (case k1 => k_is); (case k2 => k_is); (case k3 => k_is); (case k4 => decide)))
local macro_rules | `(tactic| walk_at "eval Name") => `(tactic| k_dflt (first
  | (refine' nameX_L ?hf ?hv ?_; (case hf => assumption); (case hv => first | (with_unfolding_all rfl) | (with_unfolding_all assumption)))
  | (refine name_B (by assumption) (by assumption) (by k_is) (by first | exact boot_reversed | exact boot_list | exact boot_range | exact boot_tuple | rfl) (by decide) ?_)
  | (refine name_G (by assumption) (by assumption) (by k_is) ?_)))
local macro_rules | `(tactic| walk_at "m_mem") => `(tactic| first | exact List.Mem.head _ | assumption | (apply List.Mem.tail; walk_at "m_mem"))
local macro_rules | `(tactic| walk_at "eval Name") => `(tactic| k_dflt (first
  | (refine' nm_L ?hf ?hv ?_; (case hf => assumption); (case hv => first | (with_unfolding_all rfl) | (with_unfolding_all assumption)))
  | (refine' nm_C ?hn ?hc ?hm ?hd ?_; (case hn => assumption); (case hc => rfl); (case hm => walk_at "m_mem"); (case hd => with_unfolding_all assumption))
  | (refine' nm_F ?hn ?hc ?hm ?hd ?_; (case hn => assumption); (case hc => rfl); (case hm => walk_at "m_mem"); (case hd => with_unfolding_all assumption))
  | (refine nm_B (by assumption) (by assumption) (by k_is) (by first | exact boot_reversed | exact boot_list | exact boot_range | exact boot_tuple | rfl) (by decide) ?_)
  | (refine nm_G (by assumption) (by assumption) (by k_is) ?_)))
local macro_rules | `(tactic| walk_at "getAttr ref") => `(tactic| ((with_reducible show wpAny _ _ (getAttr _ (PySem.Str.ofString "__class__") _) _ _ _); k_dflt (refine class_at (by assumption) (by assumption) (SetIs.stays (by assumption) (Fr.keep (by assumption))) ?_)))
local macro_rules | `(tactic| walk_at "m_suf") => `(tactic| repeat' (first | exact suf_self _ | assumption | apply suf_cons))
local macro_rules | `(tactic| walk_at "eval ListComp") => `(tactic| k_dflt (refine start_comp _ (by intro _; rfl) (by rfl) rfl (by decide) ?_))
local macro_rules | `(tactic| walk_at "exec Assign cons ListComp") => `(tactic| k_dflt (refine wpAny_Assign_Name ?_))
-- BODY
section
variable {w : World} {A : Around} {s : Shared} {mg mb : Str → Option Value} {Q : Flow → Shared → Prop} {E : Value → Shared → Prop} {h₀ : Heap} {L b : Addr} {m : Str → Option Value} {g : Heap} {s₁ : Shared} {ps : Array Value}
theorem seg16 {v2 v5 v7 : Option Value} {tx : Bool} {es : List (List Nat × Addr × Value)} {ys : List Value} {V x l D Rw : Addr} {ds : List Nat} {vs ws : Array Value}
    (G : Gr w mg mb h₀) (R : Rm A 12) (T : St h₀ L b g s₁ ps (some (.ref b)) v2 (some (.ref D)) (some (.ref x)) v5 (some (.ref Rw)) v7 s m)
    (S : SetIs g x l) (hl : g.IsList l vs) (hTd : Ths tx ds vs.toList) (hs : ds.Pairwise (· < ·)) (hD : g.IsList D ws) (hTD : Ths tx ds ws.toList)
    (hT : Tells tx g es ys) (hlen : es.length < 4) (hV : m "every" = some (.ref V)) (hVl : g.IsList V (es.map (·.2.2)).toArray) (hRw : g.IsList Rw (es.map fun e => Value.ref e.2.1).toArray)
    (next : ∀ s' g', St h₀ L b g' s₁ ps (some (.ref b)) v2 (some (.ref D)) (some (.ref x)) v5 (some (.ref Rw)) v7 s' m → Heap.StaysIn g g' → wpAny (model PySem.Challenge.rw_vk0007_01.row.prog w) A (execs (tl w.params 17) (lawEnv w.params L)) Q E s') :
    wpAny (model PySem.Challenge.rw_vk0007_01.row.prog w) A (execs (tl w.params 16) (lawEnv w.params L)) Q E s := by
  obtain ⟨F, ⟨o1, o2, o3, o4, o5, o6, o7, xb, tb, ep, N, d1, d2, d3, d4, d5, d6, d7⟩, ap, hb, hlow, hbare, hos⟩ := id T
  have KX := G.K
  have kg := stands N (by walk_at "m_suf")
  have Sx := S.stays kg
  have hlen9 := hTd.len9 hs
  have hn : ds.length = vs.size := hTd.len.trans (Array.length_toList (xs := vs))
  have hn' : ds.length = ws.size := hTD.len.trans (Array.length_toList (xs := ws))
  obtain ⟨oD, eD, cD⟩ := id hD
  obtain ⟨oR, eR, cR⟩ := id hRw
  conv in tl w.params 16 => unfold tl lawAt
  conv in lawEnv w.params L => unfold lawEnv lawAt
  simp only [List.drop]
  repeat' walk1
  refine call_star (x := x) (V := V) (its := (es.map (·.2.2)).toArray) F G N Sx (fun h' N' => upS (stands N' (by walk_at "m_suf")) hVl) (by rw [List.size_toArray, List.length_map]; omega) (by k_is) (by k_is) (by k_is) (by k_is) (by k_is) (by k_is) (by k_is) (by decide) (by decide)
    (fun Q E q => nm_C N rfl (by walk_at "m_mem") d4 q) (fun s' news' Q E F' N' q => nm_L F' hV q) ?_
  intro h₂ tk₂ q₂ F₂ N₂
  have kg₂ := stands N₂ (by walk_at "m_suf")
  clear F N kg
  refine difference_code (s := { s with heap := h₂, toks := tk₂ }) (ovs := es.map (·.2.2)) G F₂.keep (R.less (by omega)) (S.stays kg₂) (upS kg₂ hl) hTd hs (by omega) (hT.oths.stays kg₂) (by rw [List.length_map]; omega) ?_
  intro h₃ tk₃ x₃ dx₃ l₃ Y₃
  dsimp only
  obtain ⟨hsh₃, tkd₃, nd₃, vs₃, ep₃, hT₃, N₃, -⟩ := Y₃.news F₂ N₂
  have F₃ := F₂.keeps Y₃.keep
  clear F₂ N₂ kg₂
  obtain ⟨LED, hLED, hl3, hx3, hdx3, hsl, hm6, hm3, N₃⟩ : ∃ LED, led0 L b o1 o2 o3 o4 o5 o6 o7 xb tb ep ps (pairs g) <:+ LED ∧ (l₃, listOf vs₃ ep₃) ∈ LED ∧ (x₃, instObj 306 dx₃) ∈ LED ∧ (dx₃, itemsDict hsh₃ tkd₃ l₃ nd₃) ∈ LED ∧ pairs g <:+ LED ∧ (L + 6, o6) ∈ LED ∧ (L + 3, o3) ∈ LED ∧ News h₀ L h₃ LED := ⟨_, by walk_at "m_suf", .head _, .tail _ (.head _), .tail _ (.tail _ (.head _)), by walk_at "m_suf", by walk_at "m_mem", by walk_at "m_mem", N₃⟩
  have kg₃ := stands N₃ hsl
  repeat' walk1
  refine comp_list R.hh (MkC.one "thing" rfl (by intro _; rfl) (by intro _; rfl)) (fun C i ys news => ∃ oc v, news = (C + 1, oc) :: LED ∧ oc.data = .cell v ∧ (∀ p ∈ LED, p.1 ≠ C + 1) ∧ Ths tx ((ds.take i).filter fun d => es.all fun e => !e.1.contains d) ys) (upS kg₃ hD) (kg₃ _ _ eD) (by omega)
    (fun C i ys h news _ hm e => by
      obtain ⟨_, _, rfl, _⟩ := e
      exact hm (D, oD) (.tail _ (hsl.subset (mem_pairs.mpr eD)))) F₃ N₃ (fun C hC => ⟨_, _, rfl, rfl, fun p hp => Nat.ne_of_lt (Nat.lt_trans (Nat.lt_trans (Heap.lt_size (N₃ p hp).1) hC) (Nat.lt_succ_self C)), .nil⟩) ?_ ?_
  · rintro C i v ys₁ m₄ news₄ h₄ tk₄ I oI D₄ oL hv ⟨oc, v₀, rfl, hoc, hCL, hys⟩ hyl hoL F₄ N₄ hoff hap
    clear F₃ N₃ kg₃
    obtain ⟨d, hd1, hd2⟩ := hTD.get (i := i) (v := v) (by rw [Array.getElem?_toList]; exact hv)
    refine wpAny_assign_Name ?_
    refine st_cell (c := C + 1) F₄ N₄ rfl (by walk_at "m_mem") hoc ?_
    intro h₅ oc' F₅ hoc' e₅ k₅
    have hc1 := hoff (C + 1, oc) (.head _)
    have N₅ : News h₀ C h₅ ((I, oI) :: (D₄, lst ys₁) :: (L, oL) :: (C + 1, oc') :: LED) := news_put (pre := [(I, oI), (D₄, lst ys₁), (L, oL)]) (post := LED) N₄ k₅ e₅ (by
      simp only [List.forall_mem_cons]
      exact ⟨hc1.1.symm, hc1.2.1.symm, hc1.2.2.symm, fun _ h => nomatch h⟩) hCL
    clear F₄ N₄
    refine wpAny_tests_one ?_
    repeat' walk1
    have kg₅ := stands N₅ (by walk_at "m_suf")
    refine comp_list R.hh (MkC.none (by decide) rfl) (fun C' j ys' news => news = (I, oI) :: (D₄, lst ys₁) :: (L, oL) :: (C + 1, oc') :: LED ∧ ys'.length = ((es.take j).filter fun e => e.1.contains d).length) (upS kg₅ hRw) (kg₅ _ _ eR) (by rw [List.size_toArray, List.length_map]; omega)
      (fun C' j ys' h news _ hm e => by
        obtain ⟨rfl, _⟩ := e
        exact hm (Rw, oR) (.tail _ (.tail _ (.tail _ (.tail _ (hsl.subset (mem_pairs.mpr eR))))))) F₅ N₅ (fun C' _ => ⟨rfl, rfl⟩) ?_ ?_
    · rintro C' j rv ys₂ m₆ news₆ h₆ tk₆ I' oI' D₆ oC hrv ⟨rfl, hys₂⟩ hyl₂ hoC F₆ N₆ hoff₂ hap₂
      clear F₅ N₅ kg₅
      obtain ⟨e, he, rfl⟩ : ∃ e, es[j]? = some e ∧ rv = Value.ref e.2.1 := by
        rw [List.getElem?_toArray, List.getElem?_map] at hrv
        cases q : es[j]? with
        | none => rw [q] at hrv; cases hrv
        | some e => rw [q] at hrv; cases hrv; exact ⟨e, rfl, rfl⟩
      obtain ⟨vr, hvr, hTr, hlr⟩ := Tells.row hT he
      have ef : ((es.take (j + 1)).filter fun e => e.1.contains d) = ((es.take j).filter fun e => e.1.contains d) ++ (if (e.1.contains d) = true then [e] else []) := by
        rw [List.take_add_one, he]; simp [List.filter_append, List.filter_cons]
      refine wpAny_assign_Name ?_
      refine st_L F₆ N₆ ?_
      intro h₇ F₇ N₇
      clear F₆ N₆
      have kg₇ := stands N₇ (by walk_at "m_suf")
      refine wpAny_tests_one ?_
      repeat' walk1
      refine in_oth F₇ G (fun _ _ e => e) (R.less (by omega)) (Oth.list (upS kg₇ hvr) hTr (by omega)) hd2 ?_
      intro h₈ tk₈ k₈
      have F₈ := F₇.keeps k₈
      have N₈ := N₇.keeps k₈
      clear F₇ N₇ kg₇
      cases hcr : e.1.contains d with
      | true =>
        repeat' walk1
        exact ⟨_, _, _, _, rfl, F₈, N₈, hoff₂, rfl, by rw [ef, hcr]; simp [hys₂]⟩
      | false =>
        repeat' walk1
        exact ⟨_, _, _, _, rfl, F₈, N₈, hoff₂, rfl, by rw [ef, hcr]; simpa using hys₂⟩
    · rintro C' D₆ ys₂ news₆ h₆ tk₆ ⟨rfl, hys₂⟩ F₆ N₆ off₂ fD₂
      clear F₅ N₅ kg₅
      rw [List.take_of_length_le (by rw [List.size_toArray, List.length_map]; exact Nat.le_refl _)] at hys₂
      repeat' walk1
      rename Fr _ _ _ _ => F₇
      rename News _ _ _ _ => N₇
      refine eq_nil (listAt (N₇.get (.tail _ (.head _)))) (listAt (N₇.get (.head _))) R.units ?_
      have hq : (ys₂.toArray.size == 0) = es.all fun e => !e.1.contains d := by
        rw [List.size_toArray, hys₂]
        have z := none_left es fun e => !e.1.contains d
        simpa only [Bool.not_not] using z
      rw [hq]
      have N₈ : News h₀ C _ ((I, oI) :: (D₄, lst ys₁) :: (L, oL) :: (C + 1, oc') :: LED) := fun p hp => N₇ p (.tail _ (.tail _ hp))
      clear N₇
      have hoff' : ∀ p ∈ (C + 1, oc') :: LED, p.1 ≠ I ∧ p.1 ≠ D₄ ∧ p.1 ≠ L := fun p hp => by
        rcases List.mem_cons.mp hp with rfl | hp
        · exact hc1
        · exact hoff p (.tail _ hp)
      have ef : ((ds.take (i + 1)).filter fun d => es.all fun e => !e.1.contains d) = ((ds.take i).filter fun d => es.all fun e => !e.1.contains d) ++ (if (es.all fun e => !e.1.contains d) = true then [d] else []) := by
        rw [List.take_add_one, hd1]; simp only [Option.toList_some, List.filter_append, List.filter_cons, List.filter_nil]
      cases hcr : es.all fun e => !e.1.contains d with
      | true =>
        repeat' walk1
        exact ⟨_, _, _, _, rfl, F₇, N₈, hoff', oc', _, rfl, hoc', hCL, by rw [ef, if_pos hcr]; exact hys.append (.one hd2)⟩
      | false =>
        repeat' walk1
        exact ⟨_, _, _, _, rfl, F₇, N₈, hoff', oc', _, rfl, hoc', hCL, by rw [ef, if_neg (by rw [hcr]; exact Bool.false_ne_true), List.append_nil]; exact hys⟩
  · rintro C D₄ ys₁ news₄ h₄ tk₄ ⟨oc, v₀, rfl, hoc, hCL, hys⟩ F₄ N₄ off fD
    clear F₃ N₃ kg₃
    repeat' walk1
    rw [List.take_of_length_le (by omega)] at hys
    have S₃ : SetIs h₄ x₃ l₃ := ⟨dx₃, hsh₃, tkd₃, nd₃, N₄.get (.tail _ (.tail _ hx3)), N₄.get (.tail _ (.tail _ hdx3))⟩
    refine isset_spec G F₄.keep (R.less (by omega)) S₃ (listAt (N₄.get (.tail _ (.tail _ hl3)))) hT₃ (by have := List.length_filter_le (fun d => (es.map (·.1)).all fun r => !r.contains d) ds; omega) (listAt (N₄.get (.head _))) hys (by have := List.length_filter_le (fun d => es.all fun e => !e.1.contains d) ds; omega) ?_
    intro h₅ tk₅ k₅
    have F₅ := F₄.keeps k₅
    have N₅ := N₄.keeps k₅
    clear F₄ N₄
    rw [show ((ds.filter fun d => (es.map (·.1)).all fun r => !r.contains d) == (ds.filter fun d => es.all fun e => !e.1.contains d)) = true by simp [List.all_map, Function.comp_def]]
    iterate 3 walk1
    obtain ⟨T', kg'⟩ := St.re (L := L) (s' := { s with heap := h₅, toks := tk₅ }) F₅ (fun p hp => N₅ p (.tail _ (.tail _ hp))) hLED ⟨d1, d2, d3, d4, d5, d6, d7⟩ ap hb hlow hbare hos
    exact next _ _ T' kg'
end
end Mine

end

open PySem PySem.W PyProof.Rows in
example : True := by
  w_top off
  trivial
open PySem PySem.W PyProof.Rows in
example {M : Model} {A : Around} {E : Value → Shared → Prop} {s : Shared} {Q : Unit → Shared → Prop} (h : Q () s) : wpAny M A (pure ()) Q E s := by
  first
    | (walk1; exact h)
    | exact wpAny_pure h
section
open PySem PySem.W PyProof.Rows PySem.Calls PyProof.Rows.LCg
set_option Elab.async false
set_option maxRecDepth 100000
set_option maxHeartbeats 4000000
set_option linter.unusedVariables false
set_option pp.deepTerms.threshold 5
set_option pp.maxSteps 2000
namespace Mine
-- HEAD
example : PySem.Challenge.rw_vk0007_01 = PySem.Challenge.rw_vk0007_01 ∧ hd.heap_39 = hd.heap_39 := by
  k_fill
  exact ⟨rfl, rfl⟩
local macro_rules | `(tactic| walk_at "getAttr ref") => `(tactic| ((with_reducible show wpAny _ _ (getAttr _ (PySem.Str.ofString "_items") _) _ _ _); k_dflt (refine items_at (by assumption) (by assumption) (SetIs.stays (by assumption) (Fr.keep (by assumption))) ?_)))
local macro_rules | `(tactic| walk_at "getMethod ref") => `(tactic| k_dflt (refine' meth_at ?f ?g ?s ?k1 ?k2 ?k3 ?k4 ?_; (case f => assumption); (case g => assumption); (case s => first | assumption | exact SetIs.stays (by assumption) (Fr.keep (by assumption))); (case k1 => k_is); (case k2 => k_is); (case k3 => k_is); (case k4 => decide)))
local macro_rules | `(tactic| walk_at "eval Name") => `(tactic| k_dflt (first
  | (refine' nameX_L ?hf ?hv ?_; (case hf => assumption); (case hv => first | (with_unfolding_all rfl) | (with_unfolding_all assumption)))
  | (refine name_B (by assumption) (by assumption) (by k_is) (by first | exact boot_reversed | exact boot_list | exact boot_range | exact boot_tuple | rfl) (by decide) ?_)
  | (refine name_G (by assumption) (by assumption) (by k_is) ?_)))
local macro_rules | `(tactic| walk_at "m_mem") => `(tactic| first | exact List.Mem.head _ | assumption | (apply List.Mem.tail; walk_at "m_mem"))
local macro_rules | `(tactic| walk_at "eval Name") => `(tactic| k_dflt (first
  | (refine' nm_L ?hf ?hv ?_; (case hf => assumption); (case hv => first | (with_unfolding_all rfl) | (with_unfolding_all assumption)))
  | (refine' nm_C ?hn ?hc ?hm ?hd ?_; (case hn => assumption); (case hc => rfl); (case hm => walk_at "m_mem"); (case hd => with_unfolding_all assumption))
  | (refine' nm_F ?hn ?hc ?hm ?hd ?_; (case hn => assumption); (case hc => rfl); (case hm => walk_at "m_mem"); (case hd => with_unfolding_all assumption))
  | (refine nm_B (by assumption) (by assumption) (by k_is) (by first | exact boot_reversed | exact boot_list | exact boot_range | exact boot_tuple | rfl) (by decide) ?_)
  | (refine nm_G (by assumption) (by assumption) (by k_is) ?_)))
local macro_rules | `(tactic| walk_at "getAttr ref") => `(tactic| ((with_reducible show wpAny _ _ (getAttr _ (PySem.Str.ofString "__class__") _) _ _ _); k_dflt (refine class_at (by assumption) (by assumption) (SetIs.stays (by assumption) (Fr.keep (by assumption))) ?_)))
local macro_rules | `(tactic| walk_at "m_suf") => `(tactic| repeat' (first | exact suf_self _ | assumption | apply suf_cons))
local macro_rules | `(tactic| walk_at "eval ListComp") => `(tactic| k_dflt (refine start_comp _ (by intro _; rfl) (by rfl) rfl (by decide) ?_))
local macro_rules | `(tactic| walk_at "exec Assign cons ListComp") => `(tactic| k_dflt (refine wpAny_Assign_Name ?_))
-- BODY
section
variable {w : World} {A : Around} {s : Shared} {mg mb : Str → Option Value} {B : Heap} {Q : Value → Shared → Prop} {E : Value → Shared → Prop} {h₀ : Heap} {L : Addr} {m : Str → Option Value}
theorem isinst_oth {tx : Bool} {rs : List Nat} {ov : Value} (F : Fr h₀ L s.heap m) (G : Gr w mg mb B) (hB : Heap.StaysIn B h₀) (O : Oth tx s.heap rs ov)
    (h1 : ∀ a ws, ov = .ref a → s.heap.IsList a ws → Ths tx rs ws.toList → rs.length < 900 → Q (.bool true) s) (h2 : ∀ tk, Q (.bool false) { s with toks := tk }) :
    wpAny (model PySem.Challenge.rw_vk0007_01.row.prog w) A (call (.builtin "isinstance") [ov, .type "list"]) Q E s := by
  have X := (G.keeps (up F hB)).K
  cases O with
  | set S l t so c n =>
    obtain ⟨dx, hsh, tk, n, e1, e2⟩ := id S
    have I : InstAt s.heap _ (instObj 306 dx) 306 (some (itemsDict hsh tk _ n)) := ⟨e1, rfl, rfl, e2⟩
    have sb : subIn (hd.heap_39 w.params) (.ref 306) (.type "list") = some false := by k_is
    refine kin_callT X I (by unfold kin_notT; rw [sb]; rfl) (by with_unfolding_all rfl) (by k_is) (by k_is) (by k_is) (by k_is) (by k_is) (by k_is) (h2 _)
  | list l t n => exact call_isinstance_yes l.typeIs (by with_unfolding_all rfl) (by rw [isSubtype_type]; kernel_rfl) (h1 _ _ rfl l t n)
  | tuple l t n =>
    obtain ⟨o, e1, e2, _⟩ := id l
    exact PySem.IsiPair.tuple_list e1 e2 (h2 _)
end
end Mine

end

open PySem PySem.W PyProof.Rows in
example : True := by
  w_top off
  trivial
open PySem PySem.W PyProof.Rows in
example {M : Model} {A : Around} {E : Value → Shared → Prop} {s : Shared} {Q : Unit → Shared → Prop} (h : Q () s) : wpAny M A (pure ()) Q E s := by
  first
    | (walk1; exact h)
    | exact wpAny_pure h
section
open PySem PySem.W PyProof.Rows PySem.Calls PyProof.Rows.LCg
set_option Elab.async false
set_option maxRecDepth 100000
set_option maxHeartbeats 4000000
set_option linter.unusedVariables false
set_option pp.deepTerms.threshold 5
set_option pp.maxSteps 2000
namespace Mine
-- HEAD
example : PySem.Challenge.rw_vk0007_01 = PySem.Challenge.rw_vk0007_01 ∧ hd.heap_39 = hd.heap_39 := by
  k_fill
  exact ⟨rfl, rfl⟩
local macro_rules | `(tactic| walk_at "getAttr ref") => `(tactic| ((with_reducible show wpAny _ _ (getAttr _ (PySem.Str.ofString "_items") _) _ _ _); k_dflt (refine items_at (by assumption) (by assumption) (SetIs.stays (by assumption) (Fr.keep (by assumption))) ?_)))
local macro_rules | `(tactic| walk_at "getMethod ref") => `(tactic| k_dflt (refine' meth_at ?f ?g ?s ?k1 ?k2 ?k3 ?k4 ?_; (case f => assumption); (case g => assumption); (case s => first | assumption | exact SetIs.stays (by assumption) (Fr.keep (by assumption))); (case k1 => k_is); (case k2 => k_is); (case k3 => k_is); (case k4 => decide)))
local macro_rules | `(tactic| walk_at "eval Name") => `(tactic| k_dflt (first
  | (refine' nameX_L ?hf ?hv ?_; (case hf => assumption); (case hv => first | (with_unfolding_all rfl) | (with_unfolding_all assumption)))
  | (refine name_B (by assumption) (by assumption) (by k_is) (by first | exact boot_reversed | exact boot_list | exact boot_range | exact boot_tuple | rfl) (by decide) ?_)
  | (refine name_G (by assumption) (by assumption) (by k_is) ?_)))
local macro_rules | `(tactic| walk_at "m_mem") => `(tactic| first | exact List.Mem.head _ | assumption | (apply List.Mem.tail; walk_at "m_mem"))
local macro_rules | `(tactic| walk_at "eval Name") => `(tactic| k_dflt (first
  | (refine' nm_L ?hf ?hv ?_; (case hf => assumption); (case hv => first | (with_unfolding_all rfl) | (with_unfolding_all assumption)))
  | (refine' nm_C ?hn ?hc ?hm ?hd ?_; (case hn => assumption); (case hc => rfl); (case hm => walk_at "m_mem"); (case hd => with_unfolding_all assumption))
  | (refine' nm_F ?hn ?hc ?hm ?hd ?_; (case hn => assumption); (case hc => rfl); (case hm => walk_at "m_mem"); (case hd => with_unfolding_all assumption))
  | (refine nm_B (by assumption) (by assumption) (by k_is) (by first | exact boot_reversed | exact boot_list | exact boot_range | exact boot_tuple | rfl) (by decide) ?_)
  | (refine nm_G (by assumption) (by assumption) (by k_is) ?_)))
local macro_rules | `(tactic| walk_at "getAttr ref") => `(tactic| ((with_reducible show wpAny _ _ (getAttr _ (PySem.Str.ofString "__class__") _) _ _ _); k_dflt (refine class_at (by assumption) (by assumption) (SetIs.stays (by assumption) (Fr.keep (by assumption))) ?_)))
local macro_rules | `(tactic| walk_at "m_suf") => `(tactic| repeat' (first | exact suf_self _ | assumption | apply suf_cons))
local macro_rules | `(tactic| walk_at "eval ListComp") => `(tactic| k_dflt (refine start_comp _ (by intro _; rfl) (by rfl) rfl (by decide) ?_))
local macro_rules | `(tactic| walk_at "exec Assign cons ListComp") => `(tactic| k_dflt (refine wpAny_Assign_Name ?_))
-- BODY
/-- the statements of the law's loop over the others -/
noncomputable def stIf (P : Params) (k : Nat) : Stmt := match tl P 17 with
  | .For _ _ body _ _ :: _ => body.getD k default
  | _ => default
section
variable {w : World} {A : Around} {s : Shared} {mg mb : Str → Option Value} {Q : Flow → Shared → Prop} {E : Value → Shared → Prop} {h₀ : Heap} {L b : Addr} {m : Str → Option Value} {g : Heap} {s₁ : Shared}
  {o3 o4 o5 : Obj} {LED : List (Addr × Obj)} {x l D a : Addr} {ds rs : List Nat} {vs ws ta : Array Value} {ov : Value} {tx : Bool}
theorem ifA (G : Gr w mg mb h₀) (R : Rm A 12) (F : Fr h₀ L s.heap m) (N : News h₀ L s.heap LED) (hsl : pairs g <:+ LED)
    (m3 : (L + 3, o3) ∈ LED) (m4 : (L + 4, o4) ∈ LED) (m5 : (L + 5, o5) ∈ LED) (d3 : o3.data = .cell (some (.ref D))) (d4 : o4.data = .cell (some (.ref x))) (d5 : o5.data = .cell (some (.ref a))) (hov : m "other" = some ov)
    (S : SetIs g x l) (hl : g.IsList l vs) (hTd : Ths tx ds vs.toList) (hs : ds.Pairwise (· < ·)) (hD : g.IsList D ws) (hTD : Ths tx ds ws.toList) (O : Oth tx g rs ov) (ha : g.IsList a ta) (hTa : Ths tx rs ta.toList) (hrl : rs.length < 10)
    (next : ∀ h' tk, Fr h₀ L h' m → News h₀ L h' LED → Q .next { s with heap := h', toks := tk }) :
    wpAny (model PySem.Challenge.rw_vk0007_01.row.prog w) A (exec (stIf w.params 0) (lawEnv w.params L)) Q E s := by
  have KX := G.K
  have kg := stands N hsl
  have hd9 := hTd.len9 hs
  conv in stIf w.params 0 => unfold stIf tl lawAt
  conv in lawEnv w.params L => unfold lawEnv lawAt
  simp only [List.drop, List.getD_cons_zero]
  repeat' walk1
  refine isinst_oth F G (fun _ _ e => e) (O.stays kg) ?_ ?_
  · rintro a' ws' rfl hl' hT' hr'
    repeat' walk1
    refine binR F G (fun _ _ e => e) (S.stays kg) hl' ?_
    refine rsub_spec G F.keep (R.less (by omega)) (S.stays kg) (upS kg hl) hTd hs hl' hT' hr' ?_
    intro h₃ tk₃ x₃ dx₃ l₃ Y₃
    dsimp only [PySem.W.CmpBack]
    obtain ⟨hsh₃, tkd₃, nd₃, vs₃, ep₃, hT₃, N₃, -⟩ := Y₃.news F N
    have F₃ := F.keeps Y₃.keep
    have kg₃ := stands N₃ (by walk_at "m_suf")
    clear F N kg
    repeat' walk1
    obtain ⟨oa, ea, ca⟩ := id ha
    have hna : rs.length = ta.size := hTa.len.trans (Array.length_toList (xs := ta))
    refine sorted_spec G F₃.keep (R.less (by omega)) (upS kg₃ ha) (kg₃ _ _ ea) hTa (by omega) ?_
    intro h₄ tk₄ B₄ ws₄ ep₄ k₄ f₄ e₄ T₄
    have F₄ := F₃.keeps k₄
    have N₄ := news_new F₃ N₃ k₄ f₄ e₄
    clear F₃ N₃ kg₃
    have h9 := T₄.len9 (insAll_sorted .nil)
    have hn4 : (rs.foldl ins []).length = ws₄.size := T₄.len.trans (Array.length_toList (xs := ws₄))
    obtain ⟨LE, hLE, hsl', hB4, hl3, hx3, hdx3, m3', N₄⟩ : ∃ LE, LED <:+ LE ∧ pairs g <:+ LE ∧ (B₄, listOf ws₄ ep₄) ∈ LE ∧ (l₃, listOf vs₃ ep₃) ∈ LE ∧ (x₃, instObj 306 dx₃) ∈ LE ∧ (dx₃, itemsDict hsh₃ tkd₃ l₃ nd₃) ∈ LE ∧ (L + 3, o3) ∈ LE ∧ News h₀ L h₄ LE :=
      ⟨_, by walk_at "m_suf", by walk_at "m_suf", .head _, .tail _ (.head _), .tail _ (.tail _ (.head _)), .tail _ (.tail _ (.tail _ (.head _))), .tail _ (.tail _ (.tail _ (.tail _ m3))), N₄⟩
    repeat' walk1
    refine comp_list R.hh (MkC.none (by decide) rfl) (fun C i ys news => news = LE ∧ Ths tx (((rs.foldl ins []).take i).filter fun d => !ds.contains d) ys) (listAt (N₄.get hB4)) (N₄.get hB4) (by omega)
      (fun C i ys h news _ hm e => by
        obtain ⟨rfl, _⟩ := e
        exact hm (B₄, _) hB4) F₄ N₄ (fun C _ => ⟨rfl, .nil⟩) ?_ ?_
    · rintro C i v ys₁ m₅ news₅ h₅ tk₅ I oI D₅ oL hv ⟨rfl, hys⟩ hyl hoL F₅ N₅ hoff hap
      clear F₄ N₄
      obtain ⟨d, hd1, hd2⟩ := T₄.get (i := i) (v := v) (by rw [Array.getElem?_toList]; exact hv)
      have ef : (((rs.foldl ins []).take (i + 1)).filter fun d => !ds.contains d) = (((rs.foldl ins []).take i).filter fun d => !ds.contains d) ++ (if (!ds.contains d) = true then [d] else []) := by
        rw [List.take_add_one, hd1]; simp only [Option.toList_some, List.filter_append, List.filter_cons, List.filter_nil]
      refine wpAny_assign_Name ?_
      refine st_L F₅ N₅ ?_
      intro h₆ F₆ N₆
      clear F₅ N₅
      have kg₆ := stands N₆ (by walk_at "m_suf")
      refine wpAny_tests_one ?_
      repeat' walk1
      refine notIn_oth F₆ G (fun _ _ e => e) (R.less (by omega)) (Oth.list (upS kg₆ hD) hTD (by omega)) hd2 ?_
      intro h₇ tk₇ k₇
      have F₇ := F₆.keeps k₇
      have N₇ := N₆.keeps k₇
      clear F₆ N₆ kg₆
      cases hcr : ds.contains d with
      | true =>
        repeat' walk1
        exact ⟨_, _, _, _, rfl, F₇, N₇, hoff, rfl, by rw [ef, hcr]; simpa using hys⟩
      | false =>
        repeat' walk1
        exact ⟨_, _, _, _, rfl, F₇, N₇, hoff, rfl, by rw [ef, hcr]; exact hys.append (.one hd2)⟩
    · rintro C D₅ ys₁ news₅ h₅ tk₅ ⟨rfl, hys⟩ F₅ N₅ off fD
      clear F₄ N₄
      repeat' walk1
      rw [List.take_of_length_le (by omega)] at hys
      have S₃ : SetIs h₅ x₃ l₃ := ⟨dx₃, hsh₃, tkd₃, nd₃, N₅.get (.tail _ hx3), N₅.get (.tail _ hdx3)⟩
      have hf := List.length_filter_le (fun d => !ds.contains d) (rs.foldl ins [])
      refine isset_spec G F₅.keep (R.less (by omega)) S₃ (listAt (N₅.get (.tail _ hl3))) hT₃ (by omega) (listAt (N₅.get (.head _))) hys (by omega) ?_
      intro h₆ tk₆ k₆
      have F₆ := F₅.keeps k₆
      have N₆ := N₅.keeps k₆
      clear F₅ N₅
      rw [beq_self_eq_true]
      repeat' walk1
      exact next _ _ F₆ fun p hp => N₆ p (.tail _ (hLE.subset hp))
  · intro tk'
    repeat' walk1
    exact next _ _ F N
end
end Mine

end

open PySem PySem.W PyProof.Rows in
example : True := by
  w_top off
  trivial
open PySem PySem.W PyProof.Rows in
example {M : Model} {A : Around} {E : Value → Shared → Prop} {s : Shared} {Q : Unit → Shared → Prop} (h : Q () s) : wpAny M A (pure ()) Q E s := by
  first
    | (walk1; exact h)
    | exact wpAny_pure h
section
open PySem PySem.W PyProof.Rows PySem.Calls PyProof.Rows.LCg
set_option Elab.async false
set_option maxRecDepth 100000
set_option maxHeartbeats 4000000
set_option linter.unusedVariables false
set_option pp.deepTerms.threshold 5
set_option pp.maxSteps 2000
namespace Mine
-- HEAD
example : PySem.Challenge.rw_vk0007_01 = PySem.Challenge.rw_vk0007_01 ∧ hd.heap_39 = hd.heap_39 := by
  k_fill
  exact ⟨rfl, rfl⟩
local macro_rules | `(tactic| walk_at "getAttr ref") => `(tactic| ((with_reducible show wpAny _ _ (getAttr _ (PySem.Str.ofString "_items") _) _ _ _); k_dflt (refine items_at (by assumption) (by assumption) (SetIs.stays (by assumption) (Fr.keep (by assumption))) ?_)))
local macro_rules | `(tactic| walk_at "getMethod ref") => `(tactic| k_dflt (refine' meth_at ?f ?g ?s ?k1 ?k2 ?k3 ?k4 ?_; (case f => assumption); (case g => assumption); (case s => first | assumption | exact SetIs.stays (by assumption) (Fr.keep (by assumption))); (case k1 => k_is); (case k2 => k_is); (case k3 => k_is); (case k4 => decide)))
local macro_rules | `(tactic| walk_at "eval Name") => `(tactic| k_dflt (first
  | (refine' nameX_L ?hf ?hv ?_; (case hf => assumption); (case hv => first | (with_unfolding_all rfl) | (with_unfolding_all assumption)))
  | (refine name_B (by assumption) (by assumption) (by k_is) (by first | exact boot_reversed | exact boot_list | exact boot_range | exact boot_tuple | rfl) (by decide) ?_)
  | (refine name_G (by assumption) (by assumption) (by k_is) ?_)))
local macro_rules | `(tactic| walk_at "m_mem") => `(tactic| first | exact List.Mem.head _ | assumption | (apply List.Mem.tail; walk_at "m_mem"))
local macro_rules | `(tactic| walk_at "eval Name") => `(tactic| k_dflt (first
  | (refine' nm_L ?hf ?hv ?_; (case hf => assumption); (case hv => first | (with_unfolding_all rfl) | (with_unfolding_all assumption)))
  | (refine' nm_C ?hn ?hc ?hm ?hd ?_; (case hn => assumption); (case hc => rfl); (case hm => walk_at "m_mem"); (case hd => with_unfolding_all assumption))
  | (refine' nm_F ?hn ?hc ?hm ?hd ?_; (case hn => assumption); (case hc => rfl); (case hm => walk_at "m_mem"); (case hd => with_unfolding_all assumption))
  | (refine nm_B (by assumption) (by assumption) (by k_is) (by first | exact boot_reversed | exact boot_list | exact boot_range | exact boot_tuple | rfl) (by decide) ?_)
  | (refine nm_G (by assumption) (by assumption) (by k_is) ?_)))
local macro_rules | `(tactic| walk_at "getAttr ref") => `(tactic| ((with_reducible show wpAny _ _ (getAttr _ (PySem.Str.ofString "__class__") _) _ _ _); k_dflt (refine class_at (by assumption) (by assumption) (SetIs.stays (by assumption) (Fr.keep (by assumption))) ?_)))
local macro_rules | `(tactic| walk_at "m_suf") => `(tactic| repeat' (first | exact suf_self _ | assumption | apply suf_cons))
local macro_rules | `(tactic| walk_at "eval ListComp") => `(tactic| k_dflt (refine start_comp _ (by intro _; rfl) (by rfl) rfl (by decide) ?_))
local macro_rules | `(tactic| walk_at "exec Assign cons ListComp") => `(tactic| k_dflt (refine wpAny_Assign_Name ?_))
-- BODY
theorem len_nil (l : List Nat) : (l.length == 0) = (l == []) := by cases l <;> rfl
section
variable {w : World} {A : Around} {s : Shared} {mg mb : Str → Option Value} {Q : Flow → Shared → Prop} {E : Value → Shared → Prop} {h₀ : Heap} {L b : Addr} {m : Str → Option Value} {g : Heap} {s₁ : Shared}
  {o3 o4 o5 : Obj} {LED : List (Addr × Obj)} {x l D a : Addr} {ds rs : List Nat} {vs ws ta : Array Value} {ov : Value} {tx : Bool}
theorem ifB (G : Gr w mg mb h₀) (R : Rm A 12) (F : Fr h₀ L s.heap m) (N : News h₀ L s.heap LED) (hsl : pairs g <:+ LED)
    (m3 : (L + 3, o3) ∈ LED) (m4 : (L + 4, o4) ∈ LED) (m5 : (L + 5, o5) ∈ LED) (d3 : o3.data = .cell (some (.ref D))) (d4 : o4.data = .cell (some (.ref x))) (d5 : o5.data = .cell (some (.ref a))) (hov : m "other" = some ov)
    (S : SetIs g x l) (hl : g.IsList l vs) (hTd : Ths tx ds vs.toList) (hs : ds.Pairwise (· < ·)) (hD : g.IsList D ws) (hTD : Ths tx ds ws.toList) (O : Oth tx g rs ov) (ha : g.IsList a ta) (hTa : Ths tx rs ta.toList) (hrl : rs.length < 10)
    (next : ∀ h' tk, Fr h₀ L h' m → News h₀ L h' LED → Q .next { s with heap := h', toks := tk }) :
    wpAny (model PySem.Challenge.rw_vk0007_01.row.prog w) A (exec (stIf w.params 1) (lawEnv w.params L)) Q E s := by
  have KX := G.K
  have kg := stands N hsl
  have hd9 := hTd.len9 hs
  have Sx := S.stays kg
  have hn' : ds.length = ws.size := hTD.len.trans (Array.length_toList (xs := ws))
  obtain ⟨oD, eD, cD⟩ := id hD
  conv in stIf w.params 1 => unfold stIf tl lawAt
  conv in lawEnv w.params L => unfold lawEnv lawAt
  simp only [List.drop, List.getD_cons_succ, List.getD_cons_zero]
  repeat' walk1
  refine isdisjoint_spec G F.keep (R.less (by omega)) Sx (upS kg hl) hTd hs (O.stays kg) ?_
  intro h₂ tk₂ k₂
  have F₂ := F.keeps k₂
  have N₂ := N.keeps k₂
  clear F N kg Sx
  have kg₂ := stands N₂ hsl
  have Sx := S.stays kg₂
  repeat' walk1
  refine comp_list R.hh (MkC.none (by decide) rfl) (fun C i ys news => news = LED ∧ ys.length = ((ds.take i).filter fun d => rs.contains d).length) (upS kg₂ hD) (kg₂ _ _ eD) (by omega)
    (fun C i ys h news _ hm e => by
      obtain ⟨rfl, _⟩ := e
      exact hm (D, oD) (hsl.subset (mem_pairs.mpr eD))) F₂ N₂ (fun C _ => ⟨rfl, rfl⟩) ?_ ?_
  · rintro C i v ys₁ m₅ news₅ h₅ tk₅ I oI D₅ oL hv ⟨rfl, hys⟩ hyl hoL F₅ N₅ hoff hap
    clear F₂ N₂ kg₂ Sx
    obtain ⟨d, hd1, hd2⟩ := hTD.get (i := i) (v := v) (by rw [Array.getElem?_toList]; exact hv)
    have ef : ((ds.take (i + 1)).filter fun d => rs.contains d) = ((ds.take i).filter fun d => rs.contains d) ++ (if (rs.contains d) = true then [d] else []) := by
      rw [List.take_add_one, hd1]; simp only [Option.toList_some, List.filter_append, List.filter_cons, List.filter_nil]
    refine wpAny_assign_Name ?_
    refine st_L F₅ N₅ ?_
    intro h₆ F₆ N₆
    clear F₅ N₅
    have kg₆ := stands N₆ (by walk_at "m_suf")
    refine wpAny_tests_one ?_
    repeat' walk1
    refine in_oth F₆ G (fun _ _ e => e) (R.less (by omega)) (Oth.list (upS kg₆ ha) hTa (by omega)) hd2 ?_
    intro h₇ tk₇ k₇
    have F₇ := F₆.keeps k₇
    have N₇ := N₆.keeps k₇
    clear F₆ N₆ kg₆
    cases hcr : rs.contains d with
    | true =>
      repeat' walk1
      exact ⟨_, _, _, _, rfl, F₇, N₇, hoff, rfl, by rw [ef, hcr]; simp [hys]⟩
    | false =>
      repeat' walk1
      exact ⟨_, _, _, _, rfl, F₇, N₇, hoff, rfl, by rw [ef, hcr]; simpa using hys⟩
  · rintro C D₅ ys₁ news₅ h₅ tk₅ ⟨e₁, hys⟩ F₅ N₅ off fD
    have e₂ := e₁.symm
    subst e₂
    clear F₂ N₂ kg₂ Sx
    rw [List.take_of_length_le (by omega)] at hys
    repeat' walk1
    rename Fr _ _ _ _ => F₇
    rename News _ _ _ _ => N₇
    refine eq_nil (listAt (N₇.get (.tail _ (.head _)))) (listAt (N₇.get (.head _))) R.units ?_
    rw [show (ys₁.toArray.size == 0) = ((ds.filter fun d => rs.contains d) == []) by rw [List.size_toArray, hys]; exact len_nil _]
    have N₈ : News h₀ L _ LED := fun p hp => N₇ p (.tail _ (.tail _ hp))
    clear N₇
    have kg₈ := stands N₈ hsl
    have Sx := S.stays kg₈
    generalize ((ds.filter fun d => rs.contains d) == []) = bb
    repeat' walk1
    · rename_i hne
      simp at hne
    · refine issubset_spec G F₇.keep (R.less (by omega)) Sx (upS kg₈ hl) hTd hs (O.stays kg₈) ?_
      intro h₉ tk₉ k₉
      have F₉ := F₇.keeps k₉
      have N₉ := N₈.keeps k₉
      clear F₇ N₈ kg₈ Sx
      have kg₉ := stands N₉ hsl
      have Sx := S.stays kg₉
      repeat' walk1
      refine comp_list R.hh (MkC.none (by decide) rfl) (fun C i ys news => news = LED ∧ ys.length = ((ds.take i).filter fun d => !rs.contains d).length) (upS kg₉ hD) (kg₉ _ _ eD) (by omega)
        (fun C i ys h news _ hm e => by
          obtain ⟨rfl, _⟩ := e
          exact hm (D, oD) (hsl.subset (mem_pairs.mpr eD))) F₉ N₉ (fun C _ => ⟨rfl, rfl⟩) ?_ ?_
      · rintro C i v ys₁ m₅ news₅ h₅ tk₅ I oI D₅ oL hv ⟨rfl, hys⟩ hyl hoL F₅ N₅ hoff hap
        clear F₉ N₉ kg₉ Sx
        obtain ⟨d, hd1, hd2⟩ := hTD.get (i := i) (v := v) (by rw [Array.getElem?_toList]; exact hv)
        have ef : ((ds.take (i + 1)).filter fun d => !rs.contains d) = ((ds.take i).filter fun d => !rs.contains d) ++ (if (!rs.contains d) = true then [d] else []) := by
          rw [List.take_add_one, hd1]; simp only [Option.toList_some, List.filter_append, List.filter_cons, List.filter_nil]
        refine wpAny_assign_Name ?_
        refine st_L F₅ N₅ ?_
        intro h₆ F₆ N₆
        clear F₅ N₅
        have kg₆ := stands N₆ (by walk_at "m_suf")
        refine wpAny_tests_one ?_
        repeat' walk1
        refine notIn_oth F₆ G (fun _ _ e => e) (R.less (by omega)) (Oth.list (upS kg₆ ha) hTa (by omega)) hd2 ?_
        intro h₇ tk₇ k₇
        have F₇ := F₆.keeps k₇
        have N₇ := N₆.keeps k₇
        clear F₆ N₆ kg₆
        cases hcr : rs.contains d with
        | true =>
          repeat' walk1
          exact ⟨_, _, _, _, rfl, F₇, N₇, hoff, rfl, by rw [ef, hcr]; simpa using hys⟩
        | false =>
          repeat' walk1
          exact ⟨_, _, _, _, rfl, F₇, N₇, hoff, rfl, by rw [ef, hcr]; simp [hys]⟩
      · rintro C D₅ ys₁ news₅ h₅ tk₅ ⟨e₁, hys⟩ F₅ N₅ off fD
        have e₂ := e₁.symm
        subst e₂
        clear F₉ N₉ kg₉ Sx
        rw [List.take_of_length_le (by omega)] at hys
        repeat' walk1
        rename Fr _ _ _ _ => F₇
        rename News _ _ _ _ => N₇
        refine eq_nil (listAt (N₇.get (.tail _ (.head _)))) (listAt (N₇.get (.head _))) R.units ?_
        rw [show (ys₁.toArray.size == 0) = ((ds.filter fun d => !rs.contains d) == []) by rw [List.size_toArray, hys]; exact len_nil _]
        have N₈ : News h₀ L _ LED := fun p hp => N₇ p (.tail _ (.tail _ hp))
        clear N₇

        generalize ((ds.filter fun d => !rs.contains d) == []) = bb₂
        repeat' walk1
        · rename_i hne
          simp at hne
        · exact next _ _ F₇ N₈
end
end Mine

end

open PySem PySem.W PyProof.Rows in
example : True := by
  w_top off
  trivial
open PySem PySem.W PyProof.Rows in
example {M : Model} {A : Around} {E : Value → Shared → Prop} {s : Shared} {Q : Unit → Shared → Prop} (h : Q () s) : wpAny M A (pure ()) Q E s := by
  first
    | (walk1; exact h)
    | exact wpAny_pure h
section
open PySem PySem.W PyProof.Rows PySem.Calls PyProof.Rows.LCg
set_option Elab.async false
set_option maxRecDepth 100000
set_option maxHeartbeats 4000000
set_option linter.unusedVariables false
set_option pp.deepTerms.threshold 5
set_option pp.maxSteps 2000
namespace Mine
-- HEAD
example : PySem.Challenge.rw_vk0007_01 = PySem.Challenge.rw_vk0007_01 ∧ hd.heap_39 = hd.heap_39 := by
  k_fill
  exact ⟨rfl, rfl⟩
local macro_rules | `(tactic| walk_at "getAttr ref") => `(tactic| ((with_reducible show wpAny _ _ (getAttr _ (PySem.Str.ofString "_items") _) _ _ _); k_dflt (refine items_at (by assumption) (by assumption) (SetIs.stays (by assumption) (Fr.keep (by assumption))) ?_)))
local macro_rules | `(tactic| walk_at "getMethod ref") => `(tactic| k_dflt (refine' meth_at ?f ?g ?s ?k1 ?k2 ?k3 ?k4 ?_; (case f => assumption); (case g => assumption); (case s => first | assumption | exact SetIs.stays (by assumption) (Fr.keep (by assumption))); (case k1 => k_is); (case k2 => k_is); (case k3 => k_is); (case k4 => decide)))
local macro_rules | `(tactic| walk_at "eval Name") => `(tactic| k_dflt (first
  | (refine' nameX_L ?hf ?hv ?_; (case hf => assumption); (case hv => first | (with_unfolding_all rfl) | (with_unfolding_all assumption)))
  | (refine name_B (by assumption) (by assumption) (by k_is) (by first | exact boot_reversed | exact boot_list | exact boot_range | exact boot_tuple | rfl) (by decide) ?_)
  | (refine name_G (by assumption) (by assumption) (by k_is) ?_)))
local macro_rules | `(tactic| walk_at "m_mem") => `(tactic| first | exact List.Mem.head _ | assumption | (apply List.Mem.tail; walk_at "m_mem"))
local macro_rules | `(tactic| walk_at "eval Name") => `(tactic| k_dflt (first
  | (refine' nm_L ?hf ?hv ?_; (case hf => assumption); (case hv => first | (with_unfolding_all rfl) | (with_unfolding_all assumption)))
  | (refine' nm_C ?hn ?hc ?hm ?hd ?_; (case hn => assumption); (case hc => rfl); (case hm => walk_at "m_mem"); (case hd => with_unfolding_all assumption))
  | (refine' nm_F ?hn ?hc ?hm ?hd ?_; (case hn => assumption); (case hc => rfl); (case hm => walk_at "m_mem"); (case hd => with_unfolding_all assumption))
  | (refine nm_B (by assumption) (by assumption) (by k_is) (by first | exact boot_reversed | exact boot_list | exact boot_range | exact boot_tuple | rfl) (by decide) ?_)
  | (refine nm_G (by assumption) (by assumption) (by k_is) ?_)))
local macro_rules | `(tactic| walk_at "getAttr ref") => `(tactic| ((with_reducible show wpAny _ _ (getAttr _ (PySem.Str.ofString "__class__") _) _ _ _); k_dflt (refine class_at (by assumption) (by assumption) (SetIs.stays (by assumption) (Fr.keep (by assumption))) ?_)))
local macro_rules | `(tactic| walk_at "m_suf") => `(tactic| repeat' (first | exact suf_self _ | assumption | apply suf_cons))
local macro_rules | `(tactic| walk_at "eval ListComp") => `(tactic| k_dflt (refine start_comp _ (by intro _; rfl) (by rfl) rfl (by decide) ?_))
local macro_rules | `(tactic| walk_at "exec Assign cons ListComp") => `(tactic| k_dflt (refine wpAny_Assign_Name ?_))
-- BODY
/-- the ledger's places do not hang on what the cells hold -/
theorem led_same {L b : Addr} {o1 o2 o3 o4 o5 o6 o7 o1' o2' o3' o4' o5' o6' o7' : Obj} {x x' : Int} {t t' : Tok} {ep : Nat} {ps ps' : Array Value} {rest : List (Addr × Obj)} {p : Addr × Obj} (hp : p ∈ led0 L b o1' o2' o3' o4' o5' o6' o7' x' t' ep ps' rest) :
    ∃ p' ∈ led0 L b o1 o2 o3 o4 o5 o6 o7 x t ep ps rest, p'.1 = p.1 := by
  have split : p ∈ led0 L b o1' o2' o3' o4' o5' o6' o7' x' t' ep ps' [] ∨ p ∈ rest := by
    have : led0 L b o1' o2' o3' o4' o5' o6' o7' x' t' ep ps' rest = led0 L b o1' o2' o3' o4' o5' o6' o7' x' t' ep ps' [] ++ rest := rfl
    rw [this] at hp
    exact List.mem_append.mp hp
  rcases split with hp | hp
  · have key : ∀ p ∈ led0 L b o1' o2' o3' o4' o5' o6' o7' x' t' ep ps' [], ∃ p' ∈ led0 L b o1 o2 o3 o4 o5 o6 o7 x t ep ps rest, p'.1 = p.1 := by
      simp only [List.forall_mem_cons]
      exact ⟨⟨_, .head _, rfl⟩, ⟨_, .tail _ (.head _), rfl⟩, ⟨_, .tail _ (.tail _ (.head _)), rfl⟩, ⟨_, .tail _ (.tail _ (.tail _ (.head _))), rfl⟩, ⟨_, .tail _ (.tail _ (.tail _ (.tail _ (.head _)))), rfl⟩, ⟨_, .tail _ (.tail _ (.tail _ (.tail _ (.tail _ (.head _))))), rfl⟩, ⟨_, .tail _ (.tail _ (.tail _ (.tail _ (.tail _ (.tail _ (.head _)))))), rfl⟩, ⟨_, .tail _ (.tail _ (.tail _ (.tail _ (.tail _ (.tail _ (.tail _ (.head _))))))), rfl⟩, ⟨_, .tail _ (.tail _ (.tail _ (.tail _ (.tail _ (.tail _ (.tail _ (.tail _ (.head _)))))))), rfl⟩, fun _ h => nomatch h⟩
    exact key p hp
  · exact ⟨p, led_suf.subset hp, rfl⟩
section
variable {w : World} {A : Around} {s : Shared} {mg mb : Str → Option Value} {Q : Flow → Shared → Prop} {E : Value → Shared → Prop} {h₀ : Heap} {L b : Addr} {m : Str → Option Value} {g : Heap} {s₁ : Shared} {ps : Array Value}
theorem seg17 {v2 v6 v7 : Option Value} {v5 : Option Value} {tx : Bool} {es : List (List Nat × Addr × Value)} {ys : List Value} {x l D O : Addr} {ds : List Nat} {vs ws : Array Value}
    (G : Gr w mg mb h₀) (R : Rm A 12) (T : St h₀ L b g s₁ ps (some (.ref b)) v2 (some (.ref D)) (some (.ref x)) v5 v6 v7 s m)
    (S : SetIs g x l) (hl : g.IsList l vs) (hTd : Ths tx ds vs.toList) (hs : ds.Pairwise (· < ·)) (hD : g.IsList D ws) (hTD : Ths tx ds ws.toList)
    (hT : Tells tx g es ys) (hlen : es.length < 4) (hO : m "others" = some (.ref O)) (hOl : g.IsList O ys.toArray)
    (next : ∀ s' g' m' v5', St h₀ L b g' s₁ ps (some (.ref b)) v2 (some (.ref D)) (some (.ref x)) v5' v6 v7 s' m' → Heap.StaysIn g g' → m' "things" = m "things" → wpAny (model PySem.Challenge.rw_vk0007_01.row.prog w) A (execs (tl w.params 18) (lawEnv w.params L)) Q E s') :
    wpAny (model PySem.Challenge.rw_vk0007_01.row.prog w) A (execs (tl w.params 17) (lawEnv w.params L)) Q E s := by
  obtain ⟨F, ⟨o1, o2, o3, o4, o5, o6, o7, xb, tb, ep, N, d1, d2, d3, d4, d5, d6, d7⟩, ap, hb, hlow, hbare, hos⟩ := id T
  have KX := G.K
  have kg := stands N (by walk_at "m_suf")
  have hln := hT.len
  have apc : g.get? (L + 5) = none := ap _ (by simp)
  obtain ⟨oO, eO, cO⟩ := id hOl
  conv in tl w.params 17 => unfold tl lawAt
  conv in lawEnv w.params L => unfold lawEnv lawAt
  simp only [List.drop]
  walk1
  refine wpAny_For ?_
  walk1
  refine iter_list (oax := oO) R.hh (fun i m' news => ∃ o5' v', news = led0 L b o1 o2 o3 o4 o5' o6 o7 xb tb ep ps (pairs g) ∧ o5'.data = .cell v' ∧ m' "things" = m "things") (upS kg hOl) (fun i h m' news F' N' e => ?_) F N ⟨_, _, rfl, d5, rfl⟩ ?_ ?_
  · obtain ⟨_, _, rfl, _⟩ := e
    exact (N' (O, oO) (led_suf.subset (mem_pairs.mpr eO))).1
  · rintro i v m₁ news₁ h₅ tk₅ I oI hi ⟨o5', v', rfl, d5', hmt⟩ F₅ N₅ hI
    clear F N kg
    obtain ⟨e, he, Te⟩ := hT.get (i := i) (y := v) (by simpa using hi)
    obtain ⟨⟨T₁, rfl, eT⟩, ⟨ta, hta, hTa⟩, hsm, hoth⟩ := Te
    have kg₅ := stands N₅ (by walk_at "m_suf")
    refine unpackN_ F₅ N₅ ⟨_, kg₅ _ _ eT, rfl, _, rfl⟩ R.hh rfl rfl ?_
    intro h₆ F₆ N₆
    clear F₅ N₅ kg₅
    repeat' walk1
    refine st_cell (c := L + 5) F₆ N₆ rfl (by walk_at "m_mem") d5' ?_
    intro h₇ o5'' F₇ d5'' e₇ k₇
    have hI5 := hI (L + 5, o5') (by walk_at "m_mem")
    have N₇' := led_c5 (fun p hp => N₆ p (.tail _ hp)) k₇ e₇ (pairs_ne apc) hb hlow
    have N₇ : News h₀ L h₇ ((I, oI) :: led0 L b o1 o2 o3 o4 o5'' o6 o7 xb tb ep ps (pairs g)) := fun p hp => by
      rcases List.mem_cons.mp hp with rfl | hp
      · exact ⟨k₇ _ _ (fun q => hI5 (List.mem_singleton.mp q).symm) (N₆ _ (.head _)).1, (N₆ _ (.head _)).2⟩
      · exact N₇' p hp
    have hI' : ∀ p ∈ led0 L b o1 o2 o3 o4 o5'' o6 o7 xb tb ep ps (pairs g), p.1 ≠ I := fun p hp => by
      obtain ⟨p', hp', e'⟩ := led_same (o5 := o5') hp
      rw [← e']; exact hI p' hp'
    clear F₆ N₆ N₇'
    iterate 2 walk1
    refine st_L F₇ N₇ ?_
    intro h₈ F₈ N₈
    clear F₇ N₇
    iterate 3 walk1
    refine ifA (o3 := o3) (o4 := o4) (o5 := o5'') (ov := e.2.2) G R F₈ N₈ (by walk_at "m_suf") (by walk_at "m_mem") (by walk_at "m_mem") (by walk_at "m_mem") d3 d4 d5'' rfl S hl hTd hs hD hTD hoth hta hTa hsm ?_
    intro h₉ tk₉ F₉ N₉
    clear F₈ N₈
    walk1
    refine ifB (o3 := o3) (o4 := o4) (o5 := o5'') (ov := e.2.2) G R F₉ N₉ (by walk_at "m_suf") (by walk_at "m_mem") (by walk_at "m_mem") (by walk_at "m_mem") d3 d4 d5'' rfl S hl hTd hs hD hTD hoth hta hTa hsm ?_
    intro h₁₀ tk₁₀ F₁₀ N₁₀
    clear F₉ N₉
    repeat' walk1
    exact TurnEnd.intro F₁₀ N₁₀ (fun p hp => hI' p hp) ⟨o5'', _, rfl, d5'', hmt⟩
  · rintro m₁ news₁ h₅ tk₅ ⟨o5', v', rfl, d5', hmt⟩ F₅ N₅
    obtain ⟨T', kg'⟩ := St.re (L := L) (s' := { s with heap := h₅, toks := tk₅ }) F₅ N₅ (by walk_at "m_suf") ⟨d1, d2, d3, d4, d5', d6, d7⟩ ap hb hlow hbare hos
    exact next { s with heap := h₅, toks := tk₅ } _ _ _ T' kg' hmt
end
end Mine

end

open PySem PySem.W PyProof.Rows in
example : True := by
  w_top off
  trivial
open PySem PySem.W PyProof.Rows in
example {M : Model} {A : Around} {E : Value → Shared → Prop} {s : Shared} {Q : Unit → Shared → Prop} (h : Q () s) : wpAny M A (pure ()) Q E s := by
  first
    | (walk1; exact h)
    | exact wpAny_pure h
section
open PySem PySem.W PyProof.Rows PySem.Calls PyProof.Rows.LCg
set_option Elab.async false
set_option maxRecDepth 100000
set_option maxHeartbeats 4000000
set_option linter.unusedVariables false
set_option pp.deepTerms.threshold 5
set_option pp.maxSteps 2000
namespace Mine
-- HEAD
example : PySem.Challenge.rw_vk0007_01 = PySem.Challenge.rw_vk0007_01 ∧ hd.heap_39 = hd.heap_39 := by
  k_fill
  exact ⟨rfl, rfl⟩
local macro_rules | `(tactic| walk_at "getAttr ref") => `(tactic| ((with_reducible show wpAny _ _ (getAttr _ (PySem.Str.ofString "_items") _) _ _ _); k_dflt (refine items_at (by assumption) (by assumption) (SetIs.stays (by assumption) (Fr.keep (by assumption))) ?_)))
local macro_rules | `(tactic| walk_at "getMethod ref") => `(tactic| k_dflt (refine' meth_at ?f ?g ?s ?k1 ?k2 ?k3 ?k4 ?_; (case f => assumption); (case g => assumption); (case s => first | assumption | exact SetIs.stays (by assumption) (Fr.keep (by assumption))); (case k1 => k_is); (case k2 => k_is); (case k3 => k_is); (case k4 => decide)))
local macro_rules | `(tactic| walk_at "eval Name") => `(tactic| k_dflt (first
  | (refine' nameX_L ?hf ?hv ?_; (case hf => assumption); (case hv => first | (with_unfolding_all rfl) | (with_unfolding_all assumption)))
  | (refine name_B (by assumption) (by assumption) (by k_is) (by first | exact boot_reversed | exact boot_list | exact boot_range | exact boot_tuple | rfl) (by decide) ?_)
  | (refine name_G (by assumption) (by assumption) (by k_is) ?_)))
local macro_rules | `(tactic| walk_at "m_mem") => `(tactic| first | exact List.Mem.head _ | assumption | (apply List.Mem.tail; walk_at "m_mem"))
local macro_rules | `(tactic| walk_at "eval Name") => `(tactic| k_dflt (first
  | (refine' nm_L ?hf ?hv ?_; (case hf => assumption); (case hv => first | (with_unfolding_all rfl) | (with_unfolding_all assumption)))
  | (refine' nm_C ?hn ?hc ?hm ?hd ?_; (case hn => assumption); (case hc => rfl); (case hm => walk_at "m_mem"); (case hd => with_unfolding_all assumption))
  | (refine' nm_F ?hn ?hc ?hm ?hd ?_; (case hn => assumption); (case hc => rfl); (case hm => walk_at "m_mem"); (case hd => with_unfolding_all assumption))
  | (refine nm_B (by assumption) (by assumption) (by k_is) (by first | exact boot_reversed | exact boot_list | exact boot_range | exact boot_tuple | rfl) (by decide) ?_)
  | (refine nm_G (by assumption) (by assumption) (by k_is) ?_)))
local macro_rules | `(tactic| walk_at "getAttr ref") => `(tactic| ((with_reducible show wpAny _ _ (getAttr _ (PySem.Str.ofString "__class__") _) _ _ _); k_dflt (refine class_at (by assumption) (by assumption) (SetIs.stays (by assumption) (Fr.keep (by assumption))) ?_)))
local macro_rules | `(tactic| walk_at "m_suf") => `(tactic| repeat' (first | exact suf_self _ | assumption | apply suf_cons))
local macro_rules | `(tactic| walk_at "eval ListComp") => `(tactic| k_dflt (refine start_comp _ (by intro _; rfl) (by rfl) rfl (by decide) ?_))
local macro_rules | `(tactic| walk_at "exec Assign cons ListComp") => `(tactic| k_dflt (refine wpAny_Assign_Name ?_))
-- BODY
theorem news_app {h₀ h : Heap} {L : Addr} {l1 l2 : List (Addr × Obj)} (a : News h₀ L h l1) (c : News h₀ L h l2) : News h₀ L h (l1 ++ l2) := fun p hp => (List.mem_append.mp hp).elim (a p) (c p)
/-- the law's frame, with a list of its own that changes -/
structure St2 (h₀ : Heap) (L b ly : Addr) (mv : Array Value) (g : Heap) (s₁ : Shared) (ps : Array Value) (v1 v2 v3 v4 v5 v6 v7 : Option Value) (s : Shared) (m : Str → Option Value) : Prop where
  F : Fr h₀ L s.heap m
  N : ∃ o1 o2 o3 o4 o5 o6 o7 x t ep mep, News h₀ L s.heap ((ly, listOf mv mep) :: led0 L b o1 o2 o3 o4 o5 o6 o7 x t ep ps (pairs g)) ∧
    o1.data = .cell v1 ∧ o2.data = .cell v2 ∧ o3.data = .cell v3 ∧ o4.data = .cell v4 ∧ o5.data = .cell v5 ∧ o6.data = .cell v6 ∧ o7.data = .cell v7
  apart : ∀ a ∈ ly :: Wl L b, g.get? a = none
  lt : Ap L b
  low : 74 < L
  bare : AllBare s.gens
  os : s.os = s₁.os
  off : ly ∉ Wl L b
section
variable {h₀ g h : Heap} {L b ly : Addr} {s₁ s s' : Shared} {v1 v2 v3 v4 v5 v6 v7 : Option Value} {m m' : Str → Option Value} {led : List (Addr × Obj)} {o1 o2 o3 o4 o5 o6 o7 : Obj} {x : Int} {t : Tok} {ep mep : Nat} {ps mv : Array Value}
theorem St2.re {g : Heap} (F : Fr h₀ L s'.heap m') (N : News h₀ L s'.heap led) (hm : (ly, listOf mv mep) ∈ led) (hs : led0 L b o1 o2 o3 o4 o5 o6 o7 x t ep ps (pairs g) <:+ led)
    (d : o1.data = .cell v1 ∧ o2.data = .cell v2 ∧ o3.data = .cell v3 ∧ o4.data = .cell v4 ∧ o5.data = .cell v5 ∧ o6.data = .cell v6 ∧ o7.data = .cell v7)
    (ap : ∀ a ∈ ly :: Wl L b, g.get? a = none) (lt : Ap L b) (low : 74 < L) (bare : AllBare s'.gens) (os : s'.os = s₁.os) (off : ly ∉ Wl L b) :
    St2 h₀ L b ly mv (over h₀ s'.heap (ly :: Wl L b)) s₁ ps v1 v2 v3 v4 v5 v6 v7 s' m' ∧ Heap.StaysIn g (over h₀ s'.heap (ly :: Wl L b)) :=
  ⟨⟨F, ⟨o1, o2, o3, o4, o5, o6, o7, x, t, ep, mep, anew (led' := (ly, listOf mv mep) :: led0 L b o1 o2 o3 o4 o5 o6 o7 x t ep ps []) N (.tail _ (.head _)) (fun p hp => by
    rcases List.mem_cons.mp hp with rfl | hp
    · exact hm
    · exact hs.subset (led_mem p hp)), d⟩, fun _ ha => over_none ha, lt, low, bare, os, off⟩, over_stays N (led_suf.trans hs) ap⟩
theorem led_off {rest : List (Addr × Obj)} (off : ly ∉ Wl L b) (hr : ∀ p ∈ rest, p.1 ≠ ly) : ∀ p ∈ led0 L b o1 o2 o3 o4 o5 o6 o7 x t ep ps rest, p.1 ≠ ly := by
  have q : ∀ a ∈ Wl L b, a ≠ ly := fun a ha e => off (e ▸ ha)
  simp only [List.forall_mem_cons] at q ⊢
  obtain ⟨_, a1, a2, a3, a4, a5, a6, a7, a8, a9, _⟩ := q
  exact ⟨a1, a2, a3, a4, a5, a6, a7, a8, a9, hr⟩
end
section
variable {w : World} {A : Around} {s : Shared} {mg mb : Str → Option Value} {Q : Flow → Shared → Prop} {E : Value → Shared → Prop} {h₀ : Heap} {L b : Addr} {m : Str → Option Value} {g : Heap} {s₁ : Shared} {ps : Array Value}
theorem seg18 {v2 v5 v6 v7 : Option Value} {tx : Bool} {x l D : Addr} {ds : List Nat} {vs ws : Array Value}
    (G : Gr w mg mb h₀) (R : Rm A 12) (T : St h₀ L b g s₁ ps (some (.ref b)) v2 (some (.ref D)) (some (.ref x)) v5 v6 v7 s m)
    (S : SetIs g x l) (hl : g.IsList l vs) (hTd : Ths tx ds vs.toList) (hs : ds.Pairwise (· < ·)) (hD : g.IsList D ws) (hTD : Ths tx ds ws.toList)
    (next : ∀ s' g', St h₀ L b g' s₁ ps (some (.ref b)) v2 (some (.ref D)) (some (.ref x)) v5 v6 v7 s' m → Heap.StaysIn g g' → wpAny (model PySem.Challenge.rw_vk0007_01.row.prog w) A (execs (tl w.params 19) (lawEnv w.params L)) Q E s') :
    wpAny (model PySem.Challenge.rw_vk0007_01.row.prog w) A (execs (tl w.params 18) (lawEnv w.params L)) Q E s := by
  obtain ⟨F, ⟨o1, o2, o3, o4, o5, o6, o7, xb, tb, ep, N, d1, d2, d3, d4, d5, d6, d7⟩, ap, hb, hlow, hbare, hos⟩ := id T
  have KX := G.K
  have kg := stands N (by walk_at "m_suf")
  have hd9 := hTd.len9 hs
  conv in tl w.params 18 => unfold tl lawAt
  conv in lawEnv w.params L => unfold lawEnv lawAt
  simp only [List.drop]
  repeat' walk1
  refine isset_spec G F.keep (R.less (by omega)) (S.stays kg) (upS kg hl) hTd (by omega) (upS kg hD) hTD (by omega) ?_
  intro h₂ tk₂ k₂
  have F₂ := F.keeps k₂
  have N₂ := N.keeps k₂
  clear F N kg
  rw [beq_self_eq_true]
  iterate 3 walk1
  obtain ⟨T', kg'⟩ := St.re (s' := { s with heap := h₂, toks := tk₂ }) F₂ N₂ (by walk_at "m_suf") ⟨d1, d2, d3, d4, d5, d6, d7⟩ ap hb hlow hbare hos
  exact next _ _ T' kg'
theorem seg19 {v5 v6 : Option Value} {tx : Bool} {x l D Tg : Addr} {ds rs : List Nat} {vs ws ts : Array Value}
    (G : Gr w mg mb h₀) (R : Rm A 12) (T : St h₀ L b g s₁ ps (some (.ref b)) (some (.bool tx)) (some (.ref D)) (some (.ref x)) v5 v6 none s m)
    (S : SetIs g x l) (hl : g.IsList l vs) (hTd : Ths tx ds vs.toList) (hs : ds.Pairwise (· < ·)) (hTg : m "things" = some (.ref Tg)) (htl : g.IsList Tg ts) (hTt : Ths tx rs ts.toList) (hrs : rs.length < 10) (hds : ds = rs.foldl ins [])
    (next : ∀ s' g' y ly mv qs, St2 h₀ L b ly mv g' s₁ ps (some (.ref b)) (some (.bool tx)) (some (.ref D)) (some (.ref x)) v5 v6 (some (.ref y)) s' m → Heap.StaysIn g g' → SetIs g' y ly → Ths tx qs mv.toList → qs.Pairwise (· < ·) → (∀ d ∈ ds, d ∈ qs) →
      wpAny (model PySem.Challenge.rw_vk0007_01.row.prog w) A (execs (tl w.params 21) (lawEnv w.params L)) Q E s') :
    wpAny (model PySem.Challenge.rw_vk0007_01.row.prog w) A (execs (tl w.params 19) (lawEnv w.params L)) Q E s := by
  obtain ⟨F, ⟨o1, o2, o3, o4, o5, o6, o7, xb, tb, ep, N, d1, d2, d3, d4, d5, d6, d7⟩, ap, hb, hlow, hbare, hos⟩ := id T
  have KX := G.K
  have kg := stands N (by walk_at "m_suf")
  have hd9 := hTd.len9 hs
  have Sx := S.stays kg
  have apb : g.get? b = none := ap b (by simp)
  have ap7 : g.get? (L + 7) = none := ap _ (by simp)
  conv in tl w.params 19 => unfold tl lawAt
  conv in lawEnv w.params L => unfold lawEnv lawAt
  simp only [List.drop]
  repeat' walk1
  refine copy_spec G F.keep (R.less (by omega)) Sx (upS kg hl) hTd (by omega) ?_
  intro h₂ tk₂ y dy ly Y
  obtain ⟨hsh₂, tkd₂, nd₂, vs₂, ep₂, hT₂, N₂, n1, n2, n3, n4⟩ := Y.news F N
  have F₂ := F.keeps Y.keep
  clear F N kg Sx
  have m7 := n4 (L + 7, o7) (by walk_at "m_mem")
  have mb := n4 (b, listOf #[.int xb tb] ep) (by walk_at "m_mem")
  have offly : ly ∉ Wl L b := notW (N₂ _ (.head _)).2.1 fun p hp => (n4 p hp).1
  refine st_cell (c := L + 7) F₂ N₂ rfl (.tail _ (.tail _ (.tail _ (by walk_at "m_mem")))) d7 ?_
  intro h₃ o7' F₃ d7' e₃ k₃
  have N₃ : News h₀ L h₃ ((ly, listOf vs₂ ep₂) :: (y, instObj 306 dy) :: (dy, itemsDict hsh₂ tkd₂ ly nd₂) :: led0 L b o1 o2 o3 o4 o5 o6 o7' xb tb ep ps (pairs g)) :=
    news_app (l1 := [(ly, listOf vs₂ ep₂), (y, instObj 306 dy), (dy, itemsDict hsh₂ tkd₂ ly nd₂)]) (news_off (fun p hp => N₂ p (by revert p; k_allIn)) k₃ (by
      simp only [List.forall_mem_cons]
      exact ⟨fun q => m7.1 (List.mem_singleton.mp q).symm, fun q => m7.2.1 (List.mem_singleton.mp q).symm, fun q => m7.2.2 (List.mem_singleton.mp q).symm, fun _ h => nomatch h⟩)) (led_c7 (fun p hp => N₂ p (.tail _ (.tail _ (.tail _ hp)))) k₃ e₃ (pairs_ne ap7) hb hlow)
  clear F₂ N₂
  have Sy : SetIs h₃ y ly := ⟨dy, hsh₂, tkd₂, nd₂, (N₃ _ (.tail _ (.head _))).1, (N₃ _ (.tail _ (.tail _ (.head _)))).1⟩
  repeat' walk1
  refine things_spec G F₃.keep (R.less (by omega)) (N₃ (b, _) (.tail _ (.tail _ (.tail _ (by walk_at "m_mem"))))).1 (N₃ (b, _) (.tail _ (.tail _ (.tail _ (by walk_at "m_mem"))))).2.2 (by decide) (by decide) ?_
  intro h₄ tk₄ x₄ t₄ a₄ rs₄ ws₄ ep₄ k₄ eb₄ fa₄ hab₄ ea₄ hT₄ hrl₄
  have F₄ := fr_off1 F₃ N₃ (l := b) (.tail _ (.tail _ (.tail _ (by walk_at "m_mem")))) k₄
  have N₄' : News h₀ L h₄ ((ly, listOf vs₂ ep₂) :: (y, instObj 306 dy) :: (dy, itemsDict hsh₂ tkd₂ ly nd₂) :: led0 L b o1 o2 o3 o4 o5 o6 o7' x₄ t₄ ep ps (pairs g)) :=
    news_app (l1 := [(ly, listOf vs₂ ep₂), (y, instObj 306 dy), (dy, itemsDict hsh₂ tkd₂ ly nd₂)]) (news_off (fun p hp => N₃ p (by revert p; k_allIn)) k₄ (by
      simp only [List.forall_mem_cons]
      exact ⟨fun q => mb.1 (List.mem_singleton.mp q).symm, fun q => mb.2.1 (List.mem_singleton.mp q).symm, fun q => mb.2.2 (List.mem_singleton.mp q).symm, fun _ h => nomatch h⟩)) (led_bag (fun p hp => N₃ p (.tail _ (.tail _ (.tail _ hp)))) k₄ eb₄ (pairs_ne apb) hb hlow)
  have N₄ := news_more F₃ N₄' fa₄ ea₄
  clear F₃ N₃ Sy N₄'
  have kg₄ := stands N₄ (by walk_at "m_suf")
  repeat' walk1
  refine cat_l F₄ N₄ (listAt (N₄.get (.head _))) (upS kg₄ htl) (by have := hT₄.len.trans (Array.length_toList (xs := ws₄)); have := hTt.len.trans (Array.length_toList (xs := ts)); omega) ?_
  intro D₅ h₅ F₅ N₅ l₅ f₅
  clear F₄ N₄ kg₄
  have Sy : SetIs h₅ y ly := ⟨dy, hsh₂, tkd₂, nd₂, N₅.get (.tail _ (.tail _ (.tail _ (.head _)))), N₅.get (.tail _ (.tail _ (.tail _ (.tail _ (.head _)))))⟩
  repeat' walk1
  have hly := N₅ (ly, listOf vs₂ ep₂) (.tail _ (.tail _ (.head _)))
  refine update_spec (s := { s with heap := h₅, toks := tk₄ }) G F₅.keep hly.2.2 (R.less (by omega)) Sy hly.1 hT₂ hs (listAt (N₅.get (.head _))) (Nat.ne_of_gt (l₅ (ly, listOf vs₂ ep₂) (.tail _ (.head _)))) (rs := rs₄ ++ rs) (by simpa using hT₄.append hTt) (by rw [List.length_append]; omega) ?_
  intro h₆ tk₆ vs₆ ep₆ k₆ e₆ T₆
  have F₆ := fr_off1 F₅ N₅ (l := ly) (.tail _ (.tail _ (.head _))) k₆
  have N₆ : News h₀ L h₆ ((ly, listOf vs₆ ep₆) :: (y, instObj 306 dy) :: (dy, itemsDict hsh₂ tkd₂ ly nd₂) :: led0 L b o1 o2 o3 o4 o5 o6 o7' x₄ t₄ ep ps (pairs g)) :=
    news_put (pre := []) (post := (y, instObj 306 dy) :: (dy, itemsDict hsh₂ tkd₂ ly nd₂) :: led0 L b o1 o2 o3 o4 o5 o6 o7' x₄ t₄ ep ps (pairs g)) (fun p hp => N₅ p (.tail _ (.tail _ hp))) k₆ e₆ (fun _ h => nomatch h) (by
      have ho := led_off (o1 := o1) (o2 := o2) (o3 := o3) (o4 := o4) (o5 := o5) (o6 := o6) (o7 := o7') (x := x₄) (t := t₄) (ep := ep) (ps := ps) (rest := pairs g) offly (fun p hp => (n4 p (led_suf.subset hp)).1)
      intro p hp
      rcases List.mem_cons.mp hp with rfl | hp
      · exact n1
      rcases List.mem_cons.mp hp with rfl | hp
      · exact n2
      exact ho p hp)
  clear F₅ N₅ Sy
  have apl : ∀ a ∈ ly :: Wl L b, g.get? a = none := fun a ha => by
    rcases List.mem_cons.mp ha with rfl | ha
    · cases q : g.get? a with
      | none => rfl
      | some o => exact ((n4 (a, o) (led_suf.subset (mem_pairs.mpr q))).1 rfl).elim
    · exact ap a ha
  have oy : y ∉ ly :: Wl L b := fun q => by
    rcases List.mem_cons.mp q with q | q
    · exact n1 q
    · exact notW (N₆ _ (.tail _ (.head _))).2.1 (fun p hp => (n4 p hp).2.1) q
  have ody : dy ∉ ly :: Wl L b := fun q => by
    rcases List.mem_cons.mp q with q | q
    · exact n2 q
    · exact notW (N₆ _ (.tail _ (.tail _ (.head _)))).2.1 (fun p hp => (n4 p hp).2.2) q
  obtain ⟨T', kg'⟩ := St2.re (L := L) (s' := { s with heap := h₆, toks := tk₆ }) F₆ N₆ (.head _) (by walk_at "m_suf") ⟨d1, d2, d3, d4, d5, d6, d7'⟩ apl hb hlow hbare hos offly
  refine next _ _ y ly vs₆ _ T' kg' ⟨dy, hsh₂, tkd₂, nd₂, over_get (N₆ _ (.tail _ (.head _))).1 (N₆ _ (.tail _ (.head _))).2.2 oy, over_get (N₆ _ (.tail _ (.tail _ (.head _)))).1 (N₆ _ (.tail _ (.tail _ (.head _)))).2.2 ody⟩ T₆ (insAll_sorted hs) fun d hd => insAll_mem.mpr ?_
  first | exact .inl hd | exact .inr hd
end
end Mine

end

open PySem PySem.W PyProof.Rows in
example : True := by
  w_top off
  trivial
open PySem PySem.W PyProof.Rows in
example {M : Model} {A : Around} {E : Value → Shared → Prop} {s : Shared} {Q : Unit → Shared → Prop} (h : Q () s) : wpAny M A (pure ()) Q E s := by
  first
    | (walk1; exact h)
    | exact wpAny_pure h
section
open PySem PySem.W PyProof.Rows PySem.Calls PyProof.Rows.LCg
set_option Elab.async false
set_option maxRecDepth 100000
set_option maxHeartbeats 4000000
set_option linter.unusedVariables false
set_option pp.deepTerms.threshold 5
set_option pp.maxSteps 2000
namespace Mine
-- HEAD
example : PySem.Challenge.rw_vk0007_01 = PySem.Challenge.rw_vk0007_01 ∧ hd.heap_39 = hd.heap_39 := by
  k_fill
  exact ⟨rfl, rfl⟩
local macro_rules | `(tactic| walk_at "getAttr ref") => `(tactic| ((with_reducible show wpAny _ _ (getAttr _ (PySem.Str.ofString "_items") _) _ _ _); k_dflt (refine items_at (by assumption) (by assumption) (SetIs.stays (by assumption) (Fr.keep (by assumption))) ?_)))
local macro_rules | `(tactic| walk_at "getMethod ref") => `(tactic| k_dflt (refine' meth_at ?f ?g ?s ?k1 ?k2 ?k3 ?k4 ?_; (case f => assumption); (case g => assumption); (case s => first | assumption | exact SetIs.stays (by assumption) (Fr.keep (by assumption))); (case k1 => k_is); (case k2 => k_is); (case k3 => k_is); (case k4 => decide)))
local macro_rules | `(tactic| walk_at "eval Name") => `(tactic| k_dflt (first
  | (refine' nameX_L ?hf ?hv ?_; (case hf => assumption); (case hv => first | (with_unfolding_all rfl) | (with_unfolding_all assumption)))
  | (refine name_B (by assumption) (by assumption) (by k_is) (by first | exact boot_reversed | exact boot_list | exact boot_range | exact boot_tuple | rfl) (by decide) ?_)
  | (refine name_G (by assumption) (by assumption) (by k_is) ?_)))
local macro_rules | `(tactic| walk_at "m_mem") => `(tactic| first | exact List.Mem.head _ | assumption | (apply List.Mem.tail; walk_at "m_mem"))
local macro_rules | `(tactic| walk_at "eval Name") => `(tactic| k_dflt (first
  | (refine' nm_L ?hf ?hv ?_; (case hf => assumption); (case hv => first | (with_unfolding_all rfl) | (with_unfolding_all assumption)))
  | (refine' nm_C ?hn ?hc ?hm ?hd ?_; (case hn => assumption); (case hc => rfl); (case hm => walk_at "m_mem"); (case hd => with_unfolding_all assumption))
  | (refine' nm_F ?hn ?hc ?hm ?hd ?_; (case hn => assumption); (case hc => rfl); (case hm => walk_at "m_mem"); (case hd => with_unfolding_all assumption))
  | (refine nm_B (by assumption) (by assumption) (by k_is) (by first | exact boot_reversed | exact boot_list | exact boot_range | exact boot_tuple | rfl) (by decide) ?_)
  | (refine nm_G (by assumption) (by assumption) (by k_is) ?_)))
local macro_rules | `(tactic| walk_at "getAttr ref") => `(tactic| ((with_reducible show wpAny _ _ (getAttr _ (PySem.Str.ofString "__class__") _) _ _ _); k_dflt (refine class_at (by assumption) (by assumption) (SetIs.stays (by assumption) (Fr.keep (by assumption))) ?_)))
local macro_rules | `(tactic| walk_at "m_suf") => `(tactic| repeat' (first | exact suf_self _ | assumption | apply suf_cons))
local macro_rules | `(tactic| walk_at "eval ListComp") => `(tactic| k_dflt (refine start_comp _ (by intro _; rfl) (by rfl) rfl (by decide) ?_))
local macro_rules | `(tactic| walk_at "exec Assign cons ListComp") => `(tactic| k_dflt (refine wpAny_Assign_Name ?_))
-- BODY
section
variable {w : World} {A : Around} {s : Shared} {mg mb : Str → Option Value} {Q : Flow → Shared → Prop} {E : Value → Shared → Prop} {h₀ : Heap} {L b ly y : Addr} {mv : Array Value} {m : Str → Option Value} {g : Heap} {s₁ : Shared} {ps : Array Value}
theorem seg21 {v2 v5 v6 : Option Value} {tx : Bool} {x l D : Addr} {ds qs : List Nat} {vs ws : Array Value}
    (G : Gr w mg mb h₀) (R : Rm A 12) (T : St2 h₀ L b ly mv g s₁ ps (some (.ref b)) v2 (some (.ref D)) (some (.ref x)) v5 v6 (some (.ref y)) s m)
    (S : SetIs g x l) (hl : g.IsList l vs) (hTd : Ths tx ds vs.toList) (hs : ds.Pairwise (· < ·)) (hD : g.IsList D ws) (hTD : Ths tx ds ws.toList) (Sy : SetIs g y ly) (hTy : Ths tx qs mv.toList) (hqs : qs.Pairwise (· < ·)) (hsub : ∀ d ∈ ds, d ∈ qs)
    (next : ∀ s' g', St2 h₀ L b ly mv g' s₁ ps (some (.ref b)) v2 (some (.ref D)) (some (.ref x)) v5 v6 (some (.ref y)) s' m → Heap.StaysIn g g' → wpAny (model PySem.Challenge.rw_vk0007_01.row.prog w) A (execs (tl w.params 22) (lawEnv w.params L)) Q E s') :
    wpAny (model PySem.Challenge.rw_vk0007_01.row.prog w) A (execs (tl w.params 21) (lawEnv w.params L)) Q E s := by
  obtain ⟨F, ⟨o1, o2, o3, o4, o5, o6, o7, xb, tb, ep, mep, N, d1, d2, d3, d4, d5, d6, d7⟩, ap, hb, hlow, hbare, hos, offly⟩ := id T
  have KX := G.K
  have kg := stands N (by walk_at "m_suf")
  have hd9 := hTd.len9 hs
  have hq9 := hTy.len9 hqs
  have hn : ds.length = vs.size := hTd.len.trans (Array.length_toList (xs := vs))
  have hn' : ds.length = ws.size := hTD.len.trans (Array.length_toList (xs := ws))
  have hnq : qs.length = mv.size := hTy.len.trans (Array.length_toList (xs := mv))
  obtain ⟨oD, eD, cD⟩ := id hD
  conv in tl w.params 21 => unfold tl lawAt
  conv in lawEnv w.params L => unfold lawEnv lawAt
  simp only [List.drop]
  repeat' walk1
  refine list_set F G (fun _ _ e => e) (R.less (by omega)) (S.stays kg) (upS kg hl) (by omega) ?_
  intro h₂ tk₂ D₂ c₂ k₂ e₂ f₂
  have F₂ := F.keeps k₂
  have N₂ := news_new F N k₂ f₂ e₂
  clear F N kg
  have kg₂ := stands N₂ (by walk_at "m_suf")
  iterate 1 walk1
  refine ne_things (listAt e₂) (upS kg₂ hD) hTd hTD R.units ?_
  rw [beq_self_eq_true]
  repeat' walk1
  obtain ⟨LED, hLED, hsl, hly, m3, m7, N₂⟩ : ∃ LED, led0 L b o1 o2 o3 o4 o5 o6 o7 xb tb ep ps (pairs g) <:+ LED ∧ pairs g <:+ LED ∧ (ly, listOf mv mep) ∈ LED ∧ (L + 3, o3) ∈ LED ∧ (L + 7, o7) ∈ LED ∧ News h₀ L h₂ LED := ⟨_, by walk_at "m_suf", by walk_at "m_suf", .tail _ (.head _), by walk_at "m_mem", by walk_at "m_mem", N₂⟩
  refine comp_list R.hh (MkC.none (by decide) rfl) (fun C i ys news => news = LED ∧ ys = []) (upS kg₂ hD) (kg₂ _ _ eD) (by omega)
    (fun C i ys h news _ hm e => by
      obtain ⟨rfl, _⟩ := e
      exact hm (D, oD) (hsl.subset (mem_pairs.mpr eD))) F₂ N₂ (fun C _ => ⟨rfl, rfl⟩) ?_ ?_
  · rintro C i v ys₁ m₅ news₅ h₅ tk₅ I oI D₅ oL hv ⟨rfl, rfl⟩ hyl hoL F₅ N₅ hoff hap
    clear F₂ N₂ kg₂
    obtain ⟨d, hd1, hd2⟩ := hTD.get (i := i) (v := v) (by rw [Array.getElem?_toList]; exact hv)
    refine wpAny_assign_Name ?_
    refine st_L F₅ N₅ ?_
    intro h₆ F₆ N₆
    clear F₅ N₅
    have kg₆ := stands N₆ (by walk_at "m_suf")
    refine wpAny_tests_one ?_
    repeat' walk1
    refine list_set F₆ G (fun _ _ e => e) (R.less (by omega)) (Sy.stays kg₆) (listAt (N₆.get (.tail _ (.tail _ (.tail _ hly))))) (by omega) ?_
    intro h₇ tk₇ D₇ c₇ k₇ e₇ f₇
    have F₇ := F₆.keeps k₇
    have N₇ := N₆.keeps k₇
    clear F₆ N₆ kg₆
    refine notIn_oth F₇ G (fun _ _ e => e) (R.less (by omega)) (Oth.list (listAt e₇) hTy (by omega)) hd2 ?_
    intro h₈ tk₈ k₈
    have F₈ := F₇.keeps k₈
    have N₈ := N₇.keeps k₈
    clear F₇ N₇
    rw [show qs.contains d = true from List.contains_iff_mem.mpr (hsub d (List.mem_of_getElem? hd1))]
    repeat' walk1
    exact ⟨_, _, _, _, rfl, F₈, N₈, hoff, rfl, rfl⟩
  · rintro C D₅ ys₁ news₅ h₅ tk₅ ⟨e₁, rfl⟩ F₅ N₅ off fD
    have e₂ := e₁.symm
    subst e₂
    clear F₂ N₂ kg₂
    iterate 3 walk1
    rename Fr _ _ _ _ => F₆
    rename News _ _ _ _ => N₆
    refine ne_things (tx := tx) (ds := []) (es := []) (listAt (N₆.get (.tail _ (.head _)))) (listAt (N₆.get (.head _))) .nil .nil R.units ?_
    rw [beq_self_eq_true]
    have kg₆ := stands N₆ (by walk_at "m_suf")
    repeat' walk1
    refine list_set F₆ G (fun _ _ e => e) (R.less (by omega)) (Sy.stays kg₆) (listAt (N₆.get (.tail _ (.tail _ hly)))) (by omega) ?_
    intro h₇ tk₇ D₇ c₇ k₇ e₇ f₇
    have F₇ := F₆.keeps k₇
    have N₇ := news_new F₆ N₆ k₇ f₇ e₇
    clear F₆ N₆ kg₆
    have kg₇ := stands N₇ (by walk_at "m_suf")
    repeat' walk1
    refine list_set F₇ G (fun _ _ e => e) (R.less (by omega)) (Sy.stays kg₇) (listAt (N₇.get (.tail _ (.tail _ (.tail _ hly))))) (by omega) ?_
    intro h₈ tk₈ D₈ c₈ k₈ e₈ f₈
    have F₈ := F₇.keeps k₈
    have N₈ := news_new F₇ N₇ k₈ f₈ e₈
    clear F₇ N₇ kg₇
    iterate 2 walk1
    refine sorted_spec G F₈.keep (R.less (by omega)) (listAt e₈) e₈ hTy (by omega) ?_
    intro h₉ tk₉ B₉ ws₉ ep₉ k₉ f₉ e₉ T₉
    have F₉ := F₈.keeps k₉
    have N₉ := news_new F₈ N₈ k₉ f₉ e₉
    clear F₈ N₈
    rw [insAll_self hqs] at T₉
    refine ne_things (listAt (N₉.get (.tail _ (.tail _ (.head _))))) (listAt (N₉.get (.head _))) hTy T₉ R.units ?_
    rw [beq_self_eq_true]
    iterate 5 walk1
    obtain ⟨T', kg'⟩ := St2.re (L := L) (s' := { s with heap := h₉, toks := tk₉ }) F₉ N₉ (.tail _ (.tail _ (.tail _ (.tail _ (.tail _ hly))))) (by walk_at "m_suf") ⟨d1, d2, d3, d4, d5, d6, d7⟩ ap hb hlow hbare hos offly
    exact next _ _ T' kg'
end
end Mine

end

open PySem PySem.W PyProof.Rows in
example : True := by
  w_top off
  trivial
open PySem PySem.W PyProof.Rows in
example {M : Model} {A : Around} {E : Value → Shared → Prop} {s : Shared} {Q : Unit → Shared → Prop} (h : Q () s) : wpAny M A (pure ()) Q E s := by
  first
    | (walk1; exact h)
    | exact wpAny_pure h
section
open PySem PySem.W PyProof.Rows PySem.Calls PyProof.Rows.LCg
set_option Elab.async false
set_option maxRecDepth 100000
set_option maxHeartbeats 4000000
set_option linter.unusedVariables false
set_option pp.deepTerms.threshold 5
set_option pp.maxSteps 2000
namespace Mine
-- HEAD
example : PySem.Challenge.rw_vk0007_01 = PySem.Challenge.rw_vk0007_01 ∧ hd.heap_39 = hd.heap_39 := by
  k_fill
  exact ⟨rfl, rfl⟩
local macro_rules | `(tactic| walk_at "getAttr ref") => `(tactic| ((with_reducible show wpAny _ _ (getAttr _ (PySem.Str.ofString "_items") _) _ _ _); k_dflt (refine items_at (by assumption) (by assumption) (SetIs.stays (by assumption) (Fr.keep (by assumption))) ?_)))
local macro_rules | `(tactic| walk_at "getMethod ref") => `(tactic| k_dflt (refine' meth_at ?f ?g ?s ?k1 ?k2 ?k3 ?k4 ?_; (case f => assumption); (case g => assumption); (case s => first | assumption | exact SetIs.stays (by assumption) (Fr.keep (by assumption))); (case k1 => k_is); (case k2 => k_is); (case k3 => k_is); (case k4 => decide)))
local macro_rules | `(tactic| walk_at "eval Name") => `(tactic| k_dflt (first
  | (refine' nameX_L ?hf ?hv ?_; (case hf => assumption); (case hv => first | (with_unfolding_all rfl) | (with_unfolding_all assumption)))
  | (refine name_B (by assumption) (by assumption) (by k_is) (by first | exact boot_reversed | exact boot_list | exact boot_range | exact boot_tuple | rfl) (by decide) ?_)
  | (refine name_G (by assumption) (by assumption) (by k_is) ?_)))
local macro_rules | `(tactic| walk_at "m_mem") => `(tactic| first | exact List.Mem.head _ | assumption | (apply List.Mem.tail; walk_at "m_mem"))
local macro_rules | `(tactic| walk_at "eval Name") => `(tactic| k_dflt (first
  | (refine' nm_L ?hf ?hv ?_; (case hf => assumption); (case hv => first | (with_unfolding_all rfl) | (with_unfolding_all assumption)))
  | (refine' nm_C ?hn ?hc ?hm ?hd ?_; (case hn => assumption); (case hc => rfl); (case hm => walk_at "m_mem"); (case hd => with_unfolding_all assumption))
  | (refine' nm_F ?hn ?hc ?hm ?hd ?_; (case hn => assumption); (case hc => rfl); (case hm => walk_at "m_mem"); (case hd => with_unfolding_all assumption))
  | (refine nm_B (by assumption) (by assumption) (by k_is) (by first | exact boot_reversed | exact boot_list | exact boot_range | exact boot_tuple | rfl) (by decide) ?_)
  | (refine nm_G (by assumption) (by assumption) (by k_is) ?_)))
local macro_rules | `(tactic| walk_at "getAttr ref") => `(tactic| ((with_reducible show wpAny _ _ (getAttr _ (PySem.Str.ofString "__class__") _) _ _ _); k_dflt (refine class_at (by assumption) (by assumption) (SetIs.stays (by assumption) (Fr.keep (by assumption))) ?_)))
local macro_rules | `(tactic| walk_at "m_suf") => `(tactic| repeat' (first | exact suf_self _ | assumption | apply suf_cons))
local macro_rules | `(tactic| walk_at "eval ListComp") => `(tactic| k_dflt (refine start_comp _ (by intro _; rfl) (by rfl) rfl (by decide) ?_))
local macro_rules | `(tactic| walk_at "exec Assign cons ListComp") => `(tactic| k_dflt (refine wpAny_Assign_Name ?_))
-- BODY
section
variable {w : World} {A : Around} {s : Shared} {mg mb : Str → Option Value} {B : Heap} {E : Value → Shared → Prop} {h₀ : Heap} {L : Addr} {m : Str → Option Value}
theorem del_set {Q : Unit → Shared → Prop} {x l : Addr} {vs : Array Value} {ep i : Nat} {t : Tok} (F : Fr h₀ L s.heap m)
    (G : Gr w mg mb B) (hB : Heap.StaysIn B h₀) (hlB : B.get? l = none) (R : Rm A 4) (S : SetIs s.heap x l) (hl : s.heap.get? l = some (listOf vs ep)) (hlen : vs.size < 1000) (hi : i < vs.size)
    (h : ∀ h' tk ep', Off [l] s.heap h' → h'.get? l = some (listOf (vs.eraseIdxIfInBounds i) ep') → Q () { s with heap := h', toks := tk }) :
    wpAny (model PySem.Challenge.rw_vk0007_01.row.prog w) A (delItem (.ref x) (.int i t)) Q E s := by
  obtain ⟨dx, hsh, tk, n, h1, h2⟩ := id S
  have I : InstAt s.heap x (instObj 306 dx) 306 (some (itemsDict hsh tk l n)) := ⟨h1, rfl, rfl, h2⟩
  have X := (G.keeps (up F hB)).K
  have c1 : findIn (hd.heap_39 w.params) (.ref 306) "__delitem__" = some (some (.ref 191)) := by k_is
  have c3 : isFn (hd.heap_39 w.params) (.ref 191) = true := by k_is
  have c4 : noSeq (hd.heap_39 w.params) 306 = true := by k_is
  unfold delItem sequenceKey
  refine wpAny_holding (wpAny_bind (wpAny_bind (I.type.here ?_)))
  refine wpAny_bind ((anyM_none X c4).here ?_)
  rw [if_pos (show (!false) = true from rfl)]
  exact wpAny_pure (wpAny_bind (special_fn X I c1 (beq_iff_eq.mp c3) (delitem_spec G (up F hB) hlB (R.less (by omega)) S hl hlen hi fun h' tk ep' k e => wpAny_pure (h h' tk ep' k e))))
end
end Mine

end

open PySem PySem.W PyProof.Rows in
example : True := by
  w_top off
  trivial
open PySem PySem.W PyProof.Rows in
example {M : Model} {A : Around} {E : Value → Shared → Prop} {s : Shared} {Q : Unit → Shared → Prop} (h : Q () s) : wpAny M A (pure ()) Q E s := by
  first
    | (walk1; exact h)
    | exact wpAny_pure h
section
open PySem PySem.W PyProof.Rows PySem.Calls PyProof.Rows.LCg
set_option Elab.async false
set_option maxRecDepth 100000
set_option maxHeartbeats 4000000
set_option linter.unusedVariables false
set_option pp.deepTerms.threshold 5
set_option pp.maxSteps 2000
namespace Mine
-- HEAD
example : PySem.Challenge.rw_vk0007_01 = PySem.Challenge.rw_vk0007_01 ∧ hd.heap_39 = hd.heap_39 := by
  k_fill
  exact ⟨rfl, rfl⟩
local macro_rules | `(tactic| walk_at "getAttr ref") => `(tactic| ((with_reducible show wpAny _ _ (getAttr _ (PySem.Str.ofString "_items") _) _ _ _); k_dflt (refine items_at (by assumption) (by assumption) (SetIs.stays (by assumption) (Fr.keep (by assumption))) ?_)))
local macro_rules | `(tactic| walk_at "getMethod ref") => `(tactic| k_dflt (refine' meth_at ?f ?g ?s ?k1 ?k2 ?k3 ?k4 ?_; (case f => assumption); (case g => assumption); (case s => first | assumption | exact SetIs.stays (by assumption) (Fr.keep (by assumption))); (case k1 => k_is); (case k2 => k_is); (case k3 => k_is); (case k4 => decide)))
local macro_rules | `(tactic| walk_at "eval Name") => `(tactic| k_dflt (first
  | (refine' nameX_L ?hf ?hv ?_; (case hf => assumption); (case hv => first | (with_unfolding_all rfl) | (with_unfolding_all assumption)))
  | (refine name_B (by assumption) (by assumption) (by k_is) (by first | exact boot_reversed | exact boot_list | exact boot_range | exact boot_tuple | rfl) (by decide) ?_)
  | (refine name_G (by assumption) (by assumption) (by k_is) ?_)))
local macro_rules | `(tactic| walk_at "m_mem") => `(tactic| first | exact List.Mem.head _ | assumption | (apply List.Mem.tail; walk_at "m_mem"))
local macro_rules | `(tactic| walk_at "eval Name") => `(tactic| k_dflt (first
  | (refine' nm_L ?hf ?hv ?_; (case hf => assumption); (case hv => first | (with_unfolding_all rfl) | (with_unfolding_all assumption)))
  | (refine' nm_C ?hn ?hc ?hm ?hd ?_; (case hn => assumption); (case hc => rfl); (case hm => walk_at "m_mem"); (case hd => with_unfolding_all assumption))
  | (refine' nm_F ?hn ?hc ?hm ?hd ?_; (case hn => assumption); (case hc => rfl); (case hm => walk_at "m_mem"); (case hd => with_unfolding_all assumption))
  | (refine nm_B (by assumption) (by assumption) (by k_is) (by first | exact boot_reversed | exact boot_list | exact boot_range | exact boot_tuple | rfl) (by decide) ?_)
  | (refine nm_G (by assumption) (by assumption) (by k_is) ?_)))
local macro_rules | `(tactic| walk_at "getAttr ref") => `(tactic| ((with_reducible show wpAny _ _ (getAttr _ (PySem.Str.ofString "__class__") _) _ _ _); k_dflt (refine class_at (by assumption) (by assumption) (SetIs.stays (by assumption) (Fr.keep (by assumption))) ?_)))
local macro_rules | `(tactic| walk_at "m_suf") => `(tactic| repeat' (first | exact suf_self _ | assumption | apply suf_cons))
local macro_rules | `(tactic| walk_at "eval ListComp") => `(tactic| k_dflt (refine start_comp _ (by intro _; rfl) (by rfl) rfl (by decide) ?_))
local macro_rules | `(tactic| walk_at "exec Assign cons ListComp") => `(tactic| k_dflt (refine wpAny_Assign_Name ?_))
-- BODY
section
variable {w : World} {A : Around} {s : Shared} {mg mb : Str → Option Value} {Q : Flow → Shared → Prop} {E : Value → Shared → Prop} {h₀ : Heap} {L b ly y : Addr} {mv : Array Value} {m : Str → Option Value} {g : Heap} {s₁ : Shared} {ps : Array Value}
theorem seg22 {v2 v5 v6 : Option Value} {tx : Bool} {x l D : Addr} {ds : List Nat} {vs ws : Array Value}
    (G : Gr w mg mb h₀) (R : Rm A 12) (T : St2 h₀ L b ly mv g s₁ ps (some (.ref b)) v2 (some (.ref D)) (some (.ref x)) v5 v6 (some (.ref y)) s m)
    (S : SetIs g x l) (hl : g.IsList l vs) (hTd : Ths tx ds vs.toList) (hs : ds.Pairwise (· < ·)) (hD : g.IsList D ws) (hTD : Ths tx ds ws.toList)
    (next : ∀ s' g' m', St2 h₀ L b ly mv g' s₁ ps (some (.ref b)) v2 (some (.ref D)) (some (.ref x)) v5 v6 (some (.ref y)) s' m' → Heap.StaysIn g g' → wpAny (model PySem.Challenge.rw_vk0007_01.row.prog w) A (execs (tl w.params 23) (lawEnv w.params L)) Q E s') :
    wpAny (model PySem.Challenge.rw_vk0007_01.row.prog w) A (execs (tl w.params 22) (lawEnv w.params L)) Q E s := by
  obtain ⟨F, ⟨o1, o2, o3, o4, o5, o6, o7, xb, tb, ep, mep, N, d1, d2, d3, d4, d5, d6, d7⟩, ap, hb, hlow, hbare, hos, offly⟩ := id T
  have KX := G.K
  have kg := stands N (by walk_at "m_suf")
  have hd9 := hTd.len9 hs
  have hn : ds.length = vs.size := hTd.len.trans (Array.length_toList (xs := vs))
  have hn' : ds.length = ws.size := hTD.len.trans (Array.length_toList (xs := ws))
  have apb : g.get? b = none := ap b (by simp)
  have hlyb : ly ≠ b := fun q => offly (by rw [q]; simp)
  conv in tl w.params 22 => unfold tl lawAt
  conv in lawEnv w.params L => unfold lawEnv lawAt
  simp only [List.drop]
  repeat' walk1
  refine call_len_list (upS kg hD) (by omega) ?_
  iterate 4 walk1
  · rename_i hpos
    repeat' walk1
    refine call_len_list (upS kg hD) (by omega) ?_
    repeat' walk1
    refine draw_spec G F.keep (R.less (by omega)) (N (b, _) (.tail _ (by walk_at "m_mem"))).1 (N (b, _) (.tail _ (by walk_at "m_mem"))).2.2 (by omega) (by omega) ?_
    intro h₂ tk₂ t₂ t₂' k₂ e₂
    have F₂ := fr_off1 F N (l := b) (.tail _ (by walk_at "m_mem")) k₂
    have N₂ : News h₀ L h₂ ((ly, listOf mv mep) :: led0 L b o1 o2 o3 o4 o5 o6 o7 (xb / (ws.size : Int)) t₂ ep ps (pairs g)) :=
      news_app (l1 := [(ly, listOf mv mep)]) (news_off (fun p hp => N p (by revert p; k_allIn)) k₂ (fun p hp q => by
        rw [List.mem_singleton.mp hp] at q; exact hlyb (List.mem_singleton.mp q))) (led_bag (fun p hp => N p (.tail _ hp)) k₂ e₂ (pairs_ne apb) hb hlow)
    clear F N kg
    have q0 : 0 ≤ xb % (ws.size : Int) := Int.emod_nonneg _ (by omega)
    have q1 : xb % (ws.size : Int) < (ws.size : Int) := Int.emod_lt_of_pos _ (by omega)
    generalize xb % (ws.size : Int) = k at q0 q1
    obtain ⟨i, rfl⟩ : ∃ i : Nat, k = (i : Int) := ⟨k.toNat, by omega⟩
    refine st_L F₂ N₂ ?_
    intro h₃ F₃ N₃
    clear F₂ N₂
    have kg₃ := stands N₃ (by walk_at "m_suf")
    have Sx := S.stays kg₃
    repeat' walk1
    refine copy_spec G F₃.keep (R.less (by omega)) Sx (upS kg₃ hl) hTd (by omega) ?_
    intro h₄ tk₄ z dz lz Y
    obtain ⟨hsh₄, tkd₄, nd₄, vs₄, ep₄, hT₄, N₄, n1, n2, n3, n4⟩ := Y.news F₃ N₃
    have F₄ := F₃.keeps Y.keep
    clear F₃ N₃ kg₃ Sx
    refine st_L F₄ N₄ ?_
    intro h₅ F₅ N₅
    clear F₄ N₄
    have Sz : SetIs h₅ z lz := ⟨dz, hsh₄, tkd₄, nd₄, (N₅ _ (.tail _ (.head _))).1, (N₅ _ (.tail _ (.tail _ (.head _)))).1⟩
    have hn4 : ds.length = vs₄.size := hT₄.len.trans (Array.length_toList (xs := vs₄))
    repeat' walk1
    refine del_set (l := lz) F₅ G (fun _ _ e => e) (N₅ _ (.head _)).2.2 (R.less (by omega)) Sz (N₅ _ (.head _)).1 (by omega) (i := i) (by omega) ?_
    intro h₆ tk₆ ep₆ k₆ e₆
    have F₆ := fr_off1 F₅ N₅ (l := lz) (.head _) k₆
    have N₆ : News h₀ L h₆ ((lz, listOf (vs₄.eraseIdxIfInBounds i) ep₆) :: (z, instObj 306 dz) :: (dz, itemsDict hsh₄ tkd₄ lz nd₄) :: (ly, listOf mv mep) :: led0 L b o1 o2 o3 o4 o5 o6 o7 (xb / (ws.size : Int)) t₂ ep ps (pairs g)) :=
      news_put (pre := []) (post := (z, instObj 306 dz) :: (dz, itemsDict hsh₄ tkd₄ lz nd₄) :: (ly, listOf mv mep) :: led0 L b o1 o2 o3 o4 o5 o6 o7 (xb / (ws.size : Int)) t₂ ep ps (pairs g)) N₅ k₆ e₆ (fun _ h => nomatch h) (by
        intro p hp
        rcases List.mem_cons.mp hp with rfl | hp
        · exact n1
        rcases List.mem_cons.mp hp with rfl | hp
        · exact n2
        exact (n4 p hp).1)
    clear F₅ N₅ Sz
    have kg₆ := stands N₆ (by walk_at "m_suf")
    have T₆ : Ths tx (ds.eraseIdx i) (vs₄.eraseIdxIfInBounds i).toList := by
      have : (vs₄.eraseIdxIfInBounds i).toList = vs₄.toList.eraseIdx i := by simp
      rw [this]; exact hT₄.eraseIdx i
    repeat' walk1
    refine cut_l (s := { s with heap := h₆, toks := tk₆ }) F₆ N₆ (upS kg₆ hD) .none (.int _ _) (pick_to ws i (by omega)) (by omega) ?_
    intro D₇ h₇ F₇ N₇ l₇
    have kg₇ := stands N₇ (by walk_at "m_suf")
    clear F₆ N₆ kg₆
    repeat' walk1
    refine cut_l (s := { s with heap := h₇, toks := _ }) F₇ N₇ (upS kg₇ hD) (.int _ _) .none (pick_from ws (i + 1) (by omega)) (by omega) ?_
    intro D₈ h₈ F₈ N₈ l₈
    clear F₇ N₇ kg₇
    refine cat_l F₈ N₈ (listAt (N₈.get (.tail _ (.head _)))) (listAt (N₈.get (.head _))) (by simp only [List.size_toArray, List.length_take, List.length_drop, Array.length_toList]; omega) ?_
    intro D₉ h₉ F₉ N₉ l₉ f₉
    have kg₉ := stands N₉ (by walk_at "m_suf")
    clear F₈ N₈
    repeat' walk1
    have Sz : SetIs h₉ z lz := ⟨dz, hsh₄, tkd₄, nd₄, N₉.get (.tail _ (.tail _ (.tail _ (.tail _ (.head _))))), N₉.get (.tail _ (.tail _ (.tail _ (.tail _ (.tail _ (.head _)))))) ⟩
    have hle := List.length_eraseIdx_le ds i
    refine isset_spec G F₉.keep (R.less (by omega)) Sz (listAt (N₉.get (.tail _ (.tail _ (.tail _ (.head _)))))) T₆ (by omega) (listAt (N₉.get (.head _))) (es := ds.take i ++ ds.drop (i + 1)) (by simpa using (hTD.take i).append (hTD.drop (i + 1))) (by simp only [List.length_append, List.length_take, List.length_drop]; omega) ?_
    intro hA tkA kA
    have FA := F₉.keeps kA
    have NA := N₉.keeps kA
    clear F₉ N₉ kg₉ Sz
    have kgA := stands NA (by walk_at "m_suf")
    rw [show (ds.eraseIdx i == ds.take i ++ ds.drop (i + 1)) = true by rw [List.eraseIdx_eq_take_drop_succ]; exact beq_self_eq_true _]
    repeat' walk1
    refine list_set FA G (fun _ _ e => e) (R.less (by omega)) (S.stays kgA) (upS kgA hl) (by omega) ?_
    intro hB tkB DB cB kB eB fB
    have FB := FA.keeps kB
    have NB := news_new FA NA kB fB eB
    have kgB := stands NB (by walk_at "m_suf")
    clear FA NA kgA
    iterate 1 walk1
    refine ne_things (listAt eB) (upS kgB hD) hTd hTD R.units ?_
    rw [beq_self_eq_true]
    iterate 6 walk1
    have T' := fun tk => St2.re (L := L) (s' := { s with heap := hB, toks := tk }) FB NB (by walk_at "m_mem") (by walk_at "m_suf") ⟨d1, d2, d3, d4, d5, d6, d7⟩ ap hb hlow hbare hos offly
    exact next _ _ _ (T' _).1 (T' _).2
  · iterate 2 walk1
    have T' := fun tk => St2.re (L := L) (s' := { s with heap := s.heap, toks := tk }) F N (.head _) (by walk_at "m_suf") ⟨d1, d2, d3, d4, d5, d6, d7⟩ ap hb hlow hbare hos offly
    exact next _ _ m (T' _).1 (T' _).2
end
end Mine

end

open PySem PySem.W PyProof.Rows in
example : True := by
  w_top off
  trivial
open PySem PySem.W PyProof.Rows in
example {M : Model} {A : Around} {E : Value → Shared → Prop} {s : Shared} {Q : Unit → Shared → Prop} (h : Q () s) : wpAny M A (pure ()) Q E s := by
  first
    | (walk1; exact h)
    | exact wpAny_pure h
section
open PySem PySem.W PyProof.Rows PySem.Calls PyProof.Rows.LCg
set_option Elab.async false
set_option maxRecDepth 100000
set_option maxHeartbeats 4000000
set_option linter.unusedVariables false
set_option pp.deepTerms.threshold 5
set_option pp.maxSteps 2000
namespace Mine
-- HEAD
example : PySem.Challenge.rw_vk0007_01 = PySem.Challenge.rw_vk0007_01 ∧ hd.heap_39 = hd.heap_39 := by
  k_fill
  exact ⟨rfl, rfl⟩
local macro_rules | `(tactic| walk_at "getAttr ref") => `(tactic| ((with_reducible show wpAny _ _ (getAttr _ (PySem.Str.ofString "_items") _) _ _ _); k_dflt (refine items_at (by assumption) (by assumption) (SetIs.stays (by assumption) (Fr.keep (by assumption))) ?_)))
local macro_rules | `(tactic| walk_at "getMethod ref") => `(tactic| k_dflt (refine' meth_at ?f ?g ?s ?k1 ?k2 ?k3 ?k4 ?_; (case f => assumption); (case g => assumption); (case s => first | assumption | exact SetIs.stays (by assumption) (Fr.keep (by assumption))); (case k1 => k_is); (case k2 => k_is); (case k3 => k_is); (case k4 => decide)))
local macro_rules | `(tactic| walk_at "eval Name") => `(tactic| k_dflt (first
  | (refine' nameX_L ?hf ?hv ?_; (case hf => assumption); (case hv => first | (with_unfolding_all rfl) | (with_unfolding_all assumption)))
  | (refine name_B (by assumption) (by assumption) (by k_is) (by first | exact boot_reversed | exact boot_list | exact boot_range | exact boot_tuple | rfl) (by decide) ?_)
  | (refine name_G (by assumption) (by assumption) (by k_is) ?_)))
local macro_rules | `(tactic| walk_at "m_mem") => `(tactic| first | exact List.Mem.head _ | assumption | (apply List.Mem.tail; walk_at "m_mem"))
local macro_rules | `(tactic| walk_at "eval Name") => `(tactic| k_dflt (first
  | (refine' nm_L ?hf ?hv ?_; (case hf => assumption); (case hv => first | (with_unfolding_all rfl) | (with_unfolding_all assumption)))
  | (refine' nm_C ?hn ?hc ?hm ?hd ?_; (case hn => assumption); (case hc => rfl); (case hm => walk_at "m_mem"); (case hd => with_unfolding_all assumption))
  | (refine' nm_F ?hn ?hc ?hm ?hd ?_; (case hn => assumption); (case hc => rfl); (case hm => walk_at "m_mem"); (case hd => with_unfolding_all assumption))
  | (refine nm_B (by assumption) (by assumption) (by k_is) (by first | exact boot_reversed | exact boot_list | exact boot_range | exact boot_tuple | rfl) (by decide) ?_)
  | (refine nm_G (by assumption) (by assumption) (by k_is) ?_)))
local macro_rules | `(tactic| walk_at "getAttr ref") => `(tactic| ((with_reducible show wpAny _ _ (getAttr _ (PySem.Str.ofString "__class__") _) _ _ _); k_dflt (refine class_at (by assumption) (by assumption) (SetIs.stays (by assumption) (Fr.keep (by assumption))) ?_)))
local macro_rules | `(tactic| walk_at "m_suf") => `(tactic| repeat' (first | exact suf_self _ | assumption | apply suf_cons))
local macro_rules | `(tactic| walk_at "eval ListComp") => `(tactic| k_dflt (refine start_comp _ (by intro _; rfl) (by rfl) rfl (by decide) ?_))
local macro_rules | `(tactic| walk_at "exec Assign cons ListComp") => `(tactic| k_dflt (refine wpAny_Assign_Name ?_))
-- BODY
section
variable {w : World} {A : Around} {s : Shared} {mg mb : Str → Option Value} {Q : Flow → Shared → Prop} {E : Value → Shared → Prop} {h₀ : Heap} {L b ly y : Addr} {mv : Array Value} {m : Str → Option Value} {g : Heap} {s₁ : Shared} {ps : Array Value}
theorem seg23 {v2 v5 v6 : Option Value} {tx : Bool} {x l D : Addr} {ds qs : List Nat} {vs ws : Array Value}
    (G : Gr w mg mb h₀) (R : Rm A 12) (T : St2 h₀ L b ly mv g s₁ ps (some (.ref b)) v2 (some (.ref D)) (some (.ref x)) v5 v6 (some (.ref y)) s m)
    (S : SetIs g x l) (hl : g.IsList l vs) (hTd : Ths tx ds vs.toList) (hs : ds.Pairwise (· < ·)) (hD : g.IsList D ws) (hTD : Ths tx ds ws.toList) (Sy : SetIs g y ly) (hTy : Ths tx qs mv.toList) (hqs : qs.Pairwise (· < ·))
    (fin : ∀ s', Heap.StaysIn h₀ s'.heap → s'.heap.get? 74 = some (tabObj ps) → AllBare s'.gens → s'.os = s₁.os → Q (.ret (.bool true)) s') :
    wpAny (model PySem.Challenge.rw_vk0007_01.row.prog w) A (execs (tl w.params 23) (lawEnv w.params L)) Q E s := by
  obtain ⟨F, ⟨o1, o2, o3, o4, o5, o6, o7, xb, tb, ep, mep, N, d1, d2, d3, d4, d5, d6, d7⟩, ap, hb, hlow, hbare, hos, offly⟩ := id T
  have KX := G.K
  have kg := stands N (by walk_at "m_suf")
  have hd9 := hTd.len9 hs
  have hq9 := hTy.len9 hqs
  have hn : ds.length = vs.size := hTd.len.trans (Array.length_toList (xs := vs))
  have hn' : ds.length = ws.size := hTD.len.trans (Array.length_toList (xs := ws))
  have hnq : qs.length = mv.size := hTy.len.trans (Array.length_toList (xs := mv))
  have apl : g.get? ly = none := ap ly (.head _)
  have Sy' := Sy.stays kg
  conv in tl w.params 23 => unfold tl lawAt
  conv in lawEnv w.params L => unfold lawEnv lawAt
  simp only [List.drop]
  repeat' walk1
  refine clear_spec G F.keep (N _ (.head _)).2.2 (R.less (by omega)) Sy' (N _ (.head _)).1 (by omega) ?_
  intro h₂ tk₂ ep₂ k₂ e₂
  have F₂ := fr_off1 F N (l := ly) (.head _) k₂
  have N₂ : News h₀ L h₂ ((ly, listOf #[] ep₂) :: led0 L b o1 o2 o3 o4 o5 o6 o7 xb tb ep ps (pairs g)) :=
    news_put (pre := []) (post := led0 L b o1 o2 o3 o4 o5 o6 o7 xb tb ep ps (pairs g)) N k₂ e₂ (fun _ h => nomatch h) (led_off offly (pairs_ne apl))
  clear F N kg Sy'
  have kg₂ := stands N₂ (by walk_at "m_suf")
  repeat' walk1
  rename Fr _ _ _ _ => F₃
  rename News _ _ _ _ => N₃
  clear kg₂
  have kg₃ := stands N₃ (by walk_at "m_suf")
  refine isset_spec (tx := tx) (ds := []) (es := []) G F₃.keep (R.less (by omega)) (Sy.stays kg₃) (listAt (N₃.get (.tail _ (.head _)))) .nil (by decide) (listAt (N₃.get (.head _))) .nil (by decide) ?_
  intro h₄ tk₄ k₄
  have F₄ := F₃.keeps k₄
  have N₄ := N₃.keeps k₄
  clear F₃ N₃ kg₃
  have kg₄ := stands N₄ (by walk_at "m_suf")
  rw [beq_self_eq_true]
  repeat' walk1
  refine list_set F₄ G (fun _ _ e => e) (R.less (by omega)) (S.stays kg₄) (upS kg₄ hl) (by omega) ?_
  intro h₅ tk₅ D₅ c₅ k₅ e₅ f₅
  have F₅ := F₄.keeps k₅
  have N₅ := N₄.keeps k₅
  clear F₄ N₄ kg₄
  have kg₅ := stands N₅ (by walk_at "m_suf")
  iterate 1 walk1
  refine eq_things (listAt e₅) (upS kg₅ hD) hTd hTD R.units ?_
  rw [beq_self_eq_true]
  repeat' walk1
  refine len_set F₅ G (fun _ _ e => e) (R.less (by omega)) (S.stays kg₅) (upS kg₅ hl) (by omega) ?_
  intro h₆ tk₆ t₆ k₆
  have F₆ := F₅.keeps k₆
  have N₆ := N₅.keeps k₆
  clear F₅ N₅ kg₅
  have kg₆ := stands N₆ (by walk_at "m_suf")
  iterate 7 walk1
  rename Fr _ _ _ _ => F₇
  rename News _ _ _ _ => N₇
  clear kg₆
  have kg₇ := stands N₇ (by walk_at "m_suf")
  refine ne_things (upS kg₇ hD) (listAt (N₇.get (.head _))) hTD (es := []) .nil R.units ?_
  iterate 1 walk1
  have ev : (decide ((0 : Int) < ((vs.size : Nat) : Int)) == !(ds == [])) = true := by
    rw [← hn]
    cases ds with
    | nil => rfl
    | cons d r =>
      have : (0 : Int) < (((d :: r).length : Nat) : Int) := by simp
      rw [decide_eq_true this]; rfl
  first | rw [ev] | (have ev' := ev; simp only [] at ev'; rw [show (decide _ == _) = true from ev])
  exact fin _ F₇.keep (N₇ (74, tabObj ps) (by walk_at "m_mem")).1 hbare hos
end
end Mine

end

open PySem PySem.W PyProof.Rows in
example : True := by
  w_top off
  trivial
open PySem PySem.W PyProof.Rows in
example {M : Model} {A : Around} {E : Value → Shared → Prop} {s : Shared} {Q : Unit → Shared → Prop} (h : Q () s) : wpAny M A (pure ()) Q E s := by
  first
    | (walk1; exact h)
    | exact wpAny_pure h
section
open PySem PySem.W PyProof.Rows PySem.Calls PyProof.Rows.LCg
set_option Elab.async false
set_option maxRecDepth 100000
set_option maxHeartbeats 4000000
set_option linter.unusedVariables false
set_option pp.deepTerms.threshold 5
set_option pp.maxSteps 2000
namespace Mine
-- HEAD
example : PySem.Challenge.rw_vk0007_01 = PySem.Challenge.rw_vk0007_01 ∧ hd.heap_39 = hd.heap_39 := by
  k_fill
  exact ⟨rfl, rfl⟩
local macro_rules | `(tactic| walk_at "getAttr ref") => `(tactic| ((with_reducible show wpAny _ _ (getAttr _ (PySem.Str.ofString "_items") _) _ _ _); k_dflt (refine items_at (by assumption) (by assumption) (SetIs.stays (by assumption) (Fr.keep (by assumption))) ?_)))
local macro_rules | `(tactic| walk_at "getMethod ref") => `(tactic| k_dflt (refine' meth_at ?f ?g ?s ?k1 ?k2 ?k3 ?k4 ?_; (case f => assumption); (case g => assumption); (case s => first | assumption | exact SetIs.stays (by assumption) (Fr.keep (by assumption))); (case k1 => k_is); (case k2 => k_is); (case k3 => k_is); (case k4 => decide)))
local macro_rules | `(tactic| walk_at "eval Name") => `(tactic| k_dflt (first
  | (refine' nameX_L ?hf ?hv ?_; (case hf => assumption); (case hv => first | (with_unfolding_all rfl) | (with_unfolding_all assumption)))
  | (refine name_B (by assumption) (by assumption) (by k_is) (by first | exact boot_reversed | exact boot_list | exact boot_range | exact boot_tuple | rfl) (by decide) ?_)
  | (refine name_G (by assumption) (by assumption) (by k_is) ?_)))
local macro_rules | `(tactic| walk_at "m_mem") => `(tactic| first | exact List.Mem.head _ | assumption | (apply List.Mem.tail; walk_at "m_mem"))
local macro_rules | `(tactic| walk_at "eval Name") => `(tactic| k_dflt (first
  | (refine' nm_L ?hf ?hv ?_; (case hf => assumption); (case hv => first | (with_unfolding_all rfl) | (with_unfolding_all assumption)))
  | (refine' nm_C ?hn ?hc ?hm ?hd ?_; (case hn => assumption); (case hc => rfl); (case hm => walk_at "m_mem"); (case hd => with_unfolding_all assumption))
  | (refine' nm_F ?hn ?hc ?hm ?hd ?_; (case hn => assumption); (case hc => rfl); (case hm => walk_at "m_mem"); (case hd => with_unfolding_all assumption))
  | (refine nm_B (by assumption) (by assumption) (by k_is) (by first | exact boot_reversed | exact boot_list | exact boot_range | exact boot_tuple | rfl) (by decide) ?_)
  | (refine nm_G (by assumption) (by assumption) (by k_is) ?_)))
local macro_rules | `(tactic| walk_at "getAttr ref") => `(tactic| ((with_reducible show wpAny _ _ (getAttr _ (PySem.Str.ofString "__class__") _) _ _ _); k_dflt (refine class_at (by assumption) (by assumption) (SetIs.stays (by assumption) (Fr.keep (by assumption))) ?_)))
local macro_rules | `(tactic| walk_at "m_suf") => `(tactic| repeat' (first | exact suf_self _ | assumption | apply suf_cons))
local macro_rules | `(tactic| walk_at "eval ListComp") => `(tactic| k_dflt (refine start_comp _ (by intro _; rfl) (by rfl) rfl (by decide) ?_))
local macro_rules | `(tactic| walk_at "exec Assign cons ListComp") => `(tactic| k_dflt (refine wpAny_Assign_Name ?_))
-- BODY
section
variable {w : World} {A : Around} {s : Shared} {mg mb : Str → Option Value} {Q : Flow → Shared → Prop} {E : Value → Shared → Prop} {h₀ : Heap} {L b : Addr} {m : Str → Option Value} {g : Heap} {s₁ : Shared} {ps : Array Value}
theorem seg0 {o1 o2 o3 o4 o5 o6 o7 : Obj} {scr : Addr} {vals : List Value} {ns : List Int}
    (G : Gr w mg mb h₀) (R : Rm A 12) (F : Fr h₀ L s.heap m) (N : News h₀ L s.heap [(L + 1, o1), (L + 2, o2), (L + 3, o3), (L + 4, o4), (L + 5, o5), (L + 6, o6), (L + 7, o7), (74, tabObj ps)])
    (d1 : o1.data = .cell none) (d2 : o2.data = .cell none) (d3 : o3.data = .cell none) (d4 : o4.data = .cell none) (d5 : o5.data = .cell none) (d6 : o6.data = .cell none) (d7 : o7.data = .cell none)
    (hlow : 74 < L) (hbare : AllBare s.gens) (hos : s.os = s₁.os) (hm : m "script" = some (.ref scr)) (hl : s.heap.IsList scr vals.toArray) (hi : IntsAre vals ns) (hlen : vals.length < 1000)
    (next : ∀ s' g' b, St h₀ L b g' s₁ ps (some (.ref b)) none none none none none none s' m → wpAny (model PySem.Challenge.rw_vk0007_01.row.prog w) A (execs (tl w.params 1) (lawEnv w.params L)) Q E s') :
    wpAny (model PySem.Challenge.rw_vk0007_01.row.prog w) A (execs (tl w.params 0) (lawEnv w.params L)) Q E s := by
  have KX := G.K
  conv in tl w.params 0 => unfold tl lawAt
  conv in lawEnv w.params L => unfold lawEnv lawAt
  simp only [List.drop]
  repeat' walk1
  refine bag_spec G F.keep (R.less (by omega)) hl hi hlen ?_
  intro h₂ tk₂ b x t ep k₂ f₂ e₂
  have F₂ := F.keeps k₂
  have N₂ := news_new F N k₂ f₂ e₂
  have hap : Ap L b := by
    refine ⟨fun n hn q => ?_, fun q => ?_⟩
    · have : ∃ o, s.heap.get? (L + n) = some o := by
        obtain ⟨oL, hoL, _⟩ := ns_obj F.ns
        match n, hn with
        | 0, _ => exact ⟨_, hoL⟩
        | 1, _ => exact ⟨_, (N (L + 1, o1) (by walk_at "m_mem")).1⟩
        | 2, _ => exact ⟨_, (N (L + 2, o2) (by walk_at "m_mem")).1⟩
        | 3, _ => exact ⟨_, (N (L + 3, o3) (by walk_at "m_mem")).1⟩
        | 4, _ => exact ⟨_, (N (L + 4, o4) (by walk_at "m_mem")).1⟩
        | 5, _ => exact ⟨_, (N (L + 5, o5) (by walk_at "m_mem")).1⟩
        | 6, _ => exact ⟨_, (N (L + 6, o6) (by walk_at "m_mem")).1⟩
        | 7, _ => exact ⟨_, (N (L + 7, o7) (by walk_at "m_mem")).1⟩
      obtain ⟨o, e⟩ := this
      rw [q, f₂] at e; cases e
    · have e := (N (74, tabObj ps) (by walk_at "m_mem")).1
      rw [← q, f₂] at e; cases e
  have N₂' : News h₀ L h₂ (led0 L b o1 o2 o3 o4 o5 o6 o7 x t ep ps []) := fun p hp => N₂ p (by revert p; k_allIn)
  clear F N N₂
  refine st_cell (c := L + 1) F₂ N₂' rfl (by walk_at "m_mem") d1 ?_
  intro h₃ o' F₃ d' e₃ k₃
  have N₃ := led_c1 N₂' k₃ e₃ (fun _ h => nomatch h) hap hlow
  exact next { s with heap := h₃, toks := tk₂ } _ b (St.of F₃ N₃ (fun p hp => hp) ⟨d', d2, d3, d4, d5, d6, d7⟩ hap hlow hbare hos)
theorem seg1 {v3 v4 v5 v6 v7 : Option Value} (G : Gr w mg mb h₀) (R : Rm A 12) (T : St h₀ L b g s₁ ps (some (.ref b)) none v3 v4 v5 v6 v7 s m)
    (next : ∀ s' g' tx, St h₀ L b g' s₁ ps (some (.ref b)) (some (.bool tx)) v3 v4 v5 v6 v7 s' m → wpAny (model PySem.Challenge.rw_vk0007_01.row.prog w) A (execs (tl w.params 2) (lawEnv w.params L)) Q E s') :
    wpAny (model PySem.Challenge.rw_vk0007_01.row.prog w) A (execs (tl w.params 1) (lawEnv w.params L)) Q E s := by
  obtain ⟨F, ⟨o1, o2, o3, o4, o5, o6, o7, xb, tb, ep, N, d1, d2, d3, d4, d5, d6, d7⟩, ap, hb, hlow, hbare, hos⟩ := id T
  have KX := G.K
  have apb : g.get? b = none := ap b (by simp)
  have apc : g.get? (L + 2) = none := ap _ (by simp)
  conv in tl w.params 1 => unfold tl lawAt
  conv in lawEnv w.params L => unfold lawEnv lawAt
  simp only [List.drop]
  repeat' walk1
  refine draw_spec G F.keep (R.less (by omega)) (N (b, _) (by walk_at "m_mem")).1 (N (b, _) (by walk_at "m_mem")).2.2 (by decide) (by decide) ?_
  intro h₂ tk₂ t₂ t₂' k₂ e₂
  have F₂ := fr_off1 F N (l := b) (by walk_at "m_mem") k₂
  have N₂ := led_bag N k₂ e₂ (pairs_ne apb) hb hlow
  clear F N
  repeat' walk1
  refine st_cell (c := L + 2) F₂ N₂ rfl (by walk_at "m_mem") d2 ?_
  intro h₃ o' F₃ d' e₃ k₃
  have N₃ := led_c2 N₂ k₃ e₃ (pairs_ne apc) hb hlow
  have T' := fun tk => St.re (L := L) (s' := { s with heap := h₃, toks := tk }) F₃ N₃ (suf_self _) ⟨d1, d', d3, d4, d5, d6, d7⟩ ap hb hlow hbare hos
  exact next _ _ _ (T' _).1
theorem seg2 {tx : Bool} {v3 v4 v5 v6 v7 : Option Value} (G : Gr w mg mb h₀) (R : Rm A 12) (T : St h₀ L b g s₁ ps (some (.ref b)) (some (.bool tx)) v3 v4 v5 v6 v7 s m)
    (next : ∀ s' g' m' Tg ts rs, St h₀ L b g' s₁ ps (some (.ref b)) (some (.bool tx)) v3 v4 v5 v6 v7 s' m' → m' "things" = some (.ref Tg) → g'.IsList Tg ts → Ths tx rs ts.toList → rs.length < 10 → wpAny (model PySem.Challenge.rw_vk0007_01.row.prog w) A (execs (tl w.params 3) (lawEnv w.params L)) Q E s') :
    wpAny (model PySem.Challenge.rw_vk0007_01.row.prog w) A (execs (tl w.params 2) (lawEnv w.params L)) Q E s := by
  obtain ⟨F, ⟨o1, o2, o3, o4, o5, o6, o7, xb, tb, ep, N, d1, d2, d3, d4, d5, d6, d7⟩, ap, hb, hlow, hbare, hos⟩ := id T
  have KX := G.K
  have apb : g.get? b = none := ap b (by simp)
  conv in tl w.params 2 => unfold tl lawAt
  conv in lawEnv w.params L => unfold lawEnv lawAt
  simp only [List.drop]
  repeat' walk1
  refine things_spec G F.keep (R.less (by omega)) (N (b, _) (by walk_at "m_mem")).1 (N (b, _) (by walk_at "m_mem")).2.2 (by decide) (by decide) ?_
  intro h₂ tk₂ x₂ t₂ a rs ws ep₂ k₂ eb fa hab ea hTh hrl
  have F₂ := fr_off1 F N (l := b) (by walk_at "m_mem") k₂
  have N₂' := led_bag N k₂ eb (pairs_ne apb) hb hlow
  have N₂ := news_more F N₂' fa ea
  have oa := T.fresh fa
  clear F N N₂'
  refine st_L F₂ N₂ ?_
  intro h₃ F₃ N₃
  have T' := fun tk => St.re (L := L) (s' := { s with heap := h₃, toks := tk }) F₃ N₃ (by walk_at "m_suf") ⟨d1, d2, d3, d4, d5, d6, d7⟩ ap hb hlow hbare hos
  exact next _ _ _ a ws rs (T' _).1 rfl ⟨_, over_get (N₃ _ (.head _)).1 (N₃ _ (.head _)).2.2 oa, rfl, _, rfl⟩ hTh hrl
theorem seg3 {tx : Bool} {v2 v4 v5 v6 v7 : Option Value} {Tg : Addr} {ts : Array Value} {rs : List Nat} (G : Gr w mg mb h₀) (R : Rm A 12) (T : St h₀ L b g s₁ ps (some (.ref b)) v2 none v4 v5 v6 v7 s m)
    (hTg : m "things" = some (.ref Tg)) (htl : g.IsList Tg ts) (hTt : Ths tx rs ts.toList) (hrs : rs.length < 10)
    (next : ∀ s' g' D ws, St h₀ L b g' s₁ ps (some (.ref b)) v2 (some (.ref D)) v4 v5 v6 v7 s' m → Heap.StaysIn g g' → g'.IsList D ws → Ths tx (rs.foldl ins []) ws.toList → wpAny (model PySem.Challenge.rw_vk0007_01.row.prog w) A (execs (tl w.params 4) (lawEnv w.params L)) Q E s') :
    wpAny (model PySem.Challenge.rw_vk0007_01.row.prog w) A (execs (tl w.params 3) (lawEnv w.params L)) Q E s := by
  obtain ⟨F, ⟨o1, o2, o3, o4, o5, o6, o7, xb, tb, ep, N, d1, d2, d3, d4, d5, d6, d7⟩, ap, hb, hlow, hbare, hos⟩ := id T
  have KX := G.K
  have kg := stands N (by walk_at "m_suf")
  have apc : g.get? (L + 3) = none := ap _ (by simp)
  obtain ⟨oT, eT, cT⟩ := id htl
  conv in tl w.params 3 => unfold tl lawAt
  conv in lawEnv w.params L => unfold lawEnv lawAt
  simp only [List.drop]
  repeat' walk1
  refine sorted_spec G F.keep (R.less (by omega)) (upS kg htl) (kg _ _ eT) hTt (by omega) ?_
  intro h₂ tk₂ D ws ep₂ k₂ f₂ e₂ T₂
  have F₂ := F.keeps k₂
  have N₂ := news_new F N k₂ f₂ e₂
  have oD := T.fresh f₂
  have offD := news_fresh N f₂
  clear F N kg
  refine st_cell (c := L + 3) F₂ N₂ rfl (by walk_at "m_mem") d3 ?_
  intro h₃ o' F₃ d' e₃ k₃
  have N₃' := led_c3 (fun p hp => N₂ p (.tail _ hp)) k₃ e₃ (pairs_ne apc) hb hlow
  have N₃ : News h₀ L h₃ ((D, listOf ws ep₂) :: led0 L b o1 o2 o' o4 o5 o6 o7 xb tb ep ps (pairs g)) := news_app (l1 := [(D, listOf ws ep₂)]) (news_off (fun p hp => N₂ p (by revert p; k_allIn)) k₃ (fun p hp q => by
    rw [List.mem_singleton.mp hp] at q
    have q' : D = L + 3 := List.mem_singleton.mp q
    exact oD (by rw [q']; simp))) N₃'
  have T' := fun tk => St.re (L := L) (s' := { s with heap := h₃, toks := tk }) F₃ N₃ (by walk_at "m_suf") ⟨d1, d2, d', d4, d5, d6, d7⟩ ap hb hlow hbare hos
  exact next _ _ D ws (T' _).1 (T' _).2 ⟨_, over_get (N₃ _ (.head _)).1 (N₃ _ (.head _)).2.2 oD, rfl, _, rfl⟩ T₂
theorem seg4 {tx : Bool} {v2 v3 v5 v6 v7 : Option Value} {Tg : Addr} {ts : Array Value} {rs : List Nat} (G : Gr w mg mb h₀) (R : Rm A 12) (T : St h₀ L b g s₁ ps (some (.ref b)) v2 v3 none v5 v6 v7 s m)
    (hTg : m "things" = some (.ref Tg)) (htl : g.IsList Tg ts) (hTt : Ths tx rs ts.toList) (hrs : rs.length < 10)
    (next : ∀ s' g' x l vs, St h₀ L b g' s₁ ps (some (.ref b)) v2 v3 (some (.ref x)) v5 v6 v7 s' m → Heap.StaysIn g g' → SetIs g' x l → g'.IsList l vs → Ths tx (rs.foldl ins []) vs.toList → wpAny (model PySem.Challenge.rw_vk0007_01.row.prog w) A (execs (tl w.params 5) (lawEnv w.params L)) Q E s') :
    wpAny (model PySem.Challenge.rw_vk0007_01.row.prog w) A (execs (tl w.params 4) (lawEnv w.params L)) Q E s := by
  obtain ⟨F, ⟨o1, o2, o3, o4, o5, o6, o7, xb, tb, ep, N, d1, d2, d3, d4, d5, d6, d7⟩, ap, hb, hlow, hbare, hos⟩ := id T
  have KX := G.K
  have kg := stands N (by walk_at "m_suf")
  have apc : g.get? (L + 4) = none := ap _ (by simp)
  conv in tl w.params 4 => unfold tl lawAt
  conv in lawEnv w.params L => unfold lawEnv lawAt
  simp only [List.drop]
  repeat' walk1
  refine make_new G F.keep (R.less (by omega)) (upS kg htl) hTt (by omega) ?_
  intro h₂ tk₂ x dx l Y
  obtain ⟨hsh, tkd, nd, vs, epl, hTl, N₂, -⟩ := Y.news F N
  have F₂ := F.keeps Y.keep
  have ox := T.fresh Y.fx
  have od := T.fresh Y.fd
  have ol := T.fresh Y.fl
  clear F N kg
  refine st_cell (c := L + 4) F₂ N₂ rfl (.tail _ (.tail _ (.tail _ (by walk_at "m_mem")))) d4 ?_
  intro h₃ o' F₃ d' e₃ k₃
  have N₃' := led_c4 (fun p hp => N₂ p (.tail _ (.tail _ (.tail _ hp)))) k₃ e₃ (pairs_ne apc) hb hlow
  have N₃ : News h₀ L h₃ ((l, listOf vs epl) :: (x, instObj 306 dx) :: (dx, itemsDict hsh tkd l nd) :: led0 L b o1 o2 o3 o' o5 o6 o7 xb tb ep ps (pairs g)) := news_app (l1 := [(l, listOf vs epl), (x, instObj 306 dx), (dx, itemsDict hsh tkd l nd)]) (news_off (fun p hp => N₂ p (by revert p; k_allIn)) k₃ (by
    simp only [List.forall_mem_cons]
    exact ⟨fun q => ol (by rw [List.mem_singleton.mp q]; simp), fun q => ox (by rw [List.mem_singleton.mp q]; simp), fun q => od (by rw [List.mem_singleton.mp q]; simp), fun _ h => nomatch h⟩)) N₃'
  have T' := fun tk => St.re (L := L) (s' := { s with heap := h₃, toks := tk }) F₃ N₃ (by walk_at "m_suf") ⟨d1, d2, d3, d', d5, d6, d7⟩ ap hb hlow hbare hos
  have zl := N₃ _ (.head _)
  have zx := N₃ _ (.tail _ (.head _))
  have zd := N₃ _ (.tail _ (.tail _ (.head _)))
  exact next _ _ x l vs (T' _).1 (T' _).2 ⟨dx, hsh, tkd, nd, over_get zx.1 zx.2.2 ox, over_get zd.1 zd.2.2 od⟩ ⟨_, over_get zl.1 zl.2.2 ol, rfl, _, rfl⟩ hTl
end
end Mine

end

open PySem PySem.W PyProof.Rows in
example : True := by
  w_top off
  trivial
open PySem PySem.W PyProof.Rows in
example {M : Model} {A : Around} {E : Value → Shared → Prop} {s : Shared} {Q : Unit → Shared → Prop} (h : Q () s) : wpAny M A (pure ()) Q E s := by
  first
    | (walk1; exact h)
    | exact wpAny_pure h
section
open PySem PySem.W PyProof.Rows PySem.Calls PyProof.Rows.LCg
set_option Elab.async false
set_option maxRecDepth 100000
set_option maxHeartbeats 4000000
set_option linter.unusedVariables false
set_option pp.deepTerms.threshold 5
set_option pp.maxSteps 2000
namespace Mine
-- HEAD
example : PySem.Challenge.rw_vk0007_01 = PySem.Challenge.rw_vk0007_01 ∧ hd.heap_39 = hd.heap_39 := by
  k_fill
  exact ⟨rfl, rfl⟩
local macro_rules | `(tactic| walk_at "getAttr ref") => `(tactic| ((with_reducible show wpAny _ _ (getAttr _ (PySem.Str.ofString "_items") _) _ _ _); k_dflt (refine items_at (by assumption) (by assumption) (SetIs.stays (by assumption) (Fr.keep (by assumption))) ?_)))
local macro_rules | `(tactic| walk_at "getMethod ref") => `(tactic| k_dflt (refine' meth_at ?f ?g ?s ?k1 ?k2 ?k3 ?k4 ?_; (case f => assumption); (case g => assumption); (case s => first | assumption | exact SetIs.stays (by assumption) (Fr.keep (by assumption))); (case k1 => k_is); (case k2 => k_is); (case k3 => k_is); (case k4 => decide)))
local macro_rules | `(tactic| walk_at "eval Name") => `(tactic| k_dflt (first
  | (refine' nameX_L ?hf ?hv ?_; (case hf => assumption); (case hv => first | (with_unfolding_all rfl) | (with_unfolding_all assumption)))
  | (refine name_B (by assumption) (by assumption) (by k_is) (by first | exact boot_reversed | exact boot_list | exact boot_range | exact boot_tuple | rfl) (by decide) ?_)
  | (refine name_G (by assumption) (by assumption) (by k_is) ?_)))
local macro_rules | `(tactic| walk_at "m_mem") => `(tactic| first | exact List.Mem.head _ | assumption | (apply List.Mem.tail; walk_at "m_mem"))
local macro_rules | `(tactic| walk_at "eval Name") => `(tactic| k_dflt (first
  | (refine' nm_L ?hf ?hv ?_; (case hf => assumption); (case hv => first | (with_unfolding_all rfl) | (with_unfolding_all assumption)))
  | (refine' nm_C ?hn ?hc ?hm ?hd ?_; (case hn => assumption); (case hc => rfl); (case hm => walk_at "m_mem"); (case hd => with_unfolding_all assumption))
  | (refine' nm_F ?hn ?hc ?hm ?hd ?_; (case hn => assumption); (case hc => rfl); (case hm => walk_at "m_mem"); (case hd => with_unfolding_all assumption))
  | (refine nm_B (by assumption) (by assumption) (by k_is) (by first | exact boot_reversed | exact boot_list | exact boot_range | exact boot_tuple | rfl) (by decide) ?_)
  | (refine nm_G (by assumption) (by assumption) (by k_is) ?_)))
local macro_rules | `(tactic| walk_at "getAttr ref") => `(tactic| ((with_reducible show wpAny _ _ (getAttr _ (PySem.Str.ofString "__class__") _) _ _ _); k_dflt (refine class_at (by assumption) (by assumption) (SetIs.stays (by assumption) (Fr.keep (by assumption))) ?_)))
local macro_rules | `(tactic| walk_at "m_suf") => `(tactic| repeat' (first | exact suf_self _ | assumption | apply suf_cons))
local macro_rules | `(tactic| walk_at "eval ListComp") => `(tactic| k_dflt (refine start_comp _ (by intro _; rfl) (by rfl) rfl (by decide) ?_))
local macro_rules | `(tactic| walk_at "exec Assign cons ListComp") => `(tactic| k_dflt (refine wpAny_Assign_Name ?_))
-- BODY
theorem lookup74 (P : Params) : (hd.heap_39 P).lookup 74 = none := by
  kernel_rfl
section
variable {w : World} {A : Around} {s : Shared} {mg mb : Str → Option Value} {Q : Value → Shared → Prop} {E : Value → Shared → Prop}
theorem hide74 {h : Heap} {a : Addr} {o : Obj} (e : h.get? a = some o) (n : a ≠ 74) : (hideAll h [74]).get? a = some o := hideAll_get [74] e fun q => n (List.mem_singleton.mp q)
theorem gr_hide {h : Heap} (G : Gr w mg mb h) : Gr w mg mb (hideAll h [74]) := by
  refine ⟨fun a o e => hide74 (G.K a o e) fun q => ?_, ?_⟩
  · rw [q, lookup74] at e; cases e
  · obtain ⟨g, b, nl, bu, fr⟩ := G.T
    refine ⟨?_, ?_, ?_, bu, fr⟩
    · obtain ⟨o, es, ep, e, r⟩ := g
      exact ⟨o, es, ep, hide74 e (by decide), r⟩
    · obtain ⟨o, es, ep, e, r⟩ := b
      exact ⟨o, es, ep, hide74 e (by decide), r⟩
    · obtain ⟨o, ⟨o', es, ep, e, q⟩, r⟩ := nl
      exact ⟨o, ⟨o', es, ep, hide74 e (by decide), q⟩, r⟩
theorem bm_hide {h : Heap} {bm : Addr} {obm : Obj} {ps : Array Value} (M : BMod h mainGlobals mg bm obm) (e74 : h.get? 74 = some (tabObj ps)) : BMod (hideAll h [74]) mainGlobals mg bm obm := by
  obtain ⟨a, b, c, d, e, f, i⟩ := M
  refine ⟨?_, b, c, hide74 d (fun q => ?_), e, f, i⟩
  · obtain ⟨o, es, ep, e, r⟩ := a
    exact ⟨o, es, ep, hide74 e (by decide), r⟩
  · rw [q, e74] at d; cases d; cases e

theorem flat_len {tx : Bool} {g : Heap} {es : List (List Nat × Addr × Value)} {ys : List Value} (t : Tells tx g es ys) : (es.map (·.1)).flatten.length ≤ 10 * es.length := by
  induction t with
  | nil => simp
  | cons a _ ih =>
    have := a.small
    simp only [List.map_cons, List.flatten_cons, List.length_append, List.length_cons]
    omega
/-- the law's call: it ends and answers True -/
theorem law_spec {scr : Addr} {vals : List Value} {ns : List Int} {bm : Addr} {obm : Obj}
    (G : Gr w mg mb s.heap) (h74 : s.heap.get? 74 = some (tabObj #[])) (MB : BMod s.heap mainGlobals mg bm obm) (hbare : AllBare s.gens) (R : Rm A 13) (hg : A.guards = some []) (hl : s.heap.IsList scr vals.toArray) (hi : IntsAre vals ns) (hlen : vals.length < 1000)
    (fin : ∀ s' ps, Off [74] s.heap s'.heap → s'.heap.get? 74 = some (tabObj ps) → AllBare s'.gens → s'.os = s.os → Q (.bool true) s') :
    wpAny (model PySem.Challenge.rw_vk0007_01.row.prog w) A (call (.ref 355) [.ref scr]) Q E s := by
  refine enterCells [("script", .ref scr)] G.K G.T.nolimit (by k_is) (by k_is) R.room (BindsTo.of_eq rfl) rfl (by decide) ?_
  intro L h₁ tk cells F N Y hlt
  obtain ⟨o7, o6, o5, o4, o3, o2, o1, rfl, d7, d6, d5, d4, d3, d2, d1⟩ := kc_seven Y
  have G₀ := gr_hide G
  have M₀ := bm_hide MB h74
  have f74 : (hideAll s.heap [74]).get? 74 = none := hideAll_none [74] (List.mem_singleton_self _)
  have hlow : 74 < L := hlt _ _ h74
  have F₀ : Fr (hideAll s.heap [74]) L h₁ _ := ⟨F.ns, fun b o e => F.keep b o (of_hideAll _ e), Nat.le_trans (Nat.le_of_eq (hideAll_size _ _)) F.above⟩
  have N₀ : News (hideAll s.heap [74]) L h₁ [(L + 1, o1), (L + 2, o2), (L + 3, o3), (L + 4, o4), (L + 5, o5), (L + 6, o6), (L + 7, o7), (74, tabObj #[])] := by
    have old : ∀ p ∈ [(L + 1, o1), (L + 2, o2), (L + 3, o3), (L + 4, o4), (L + 5, o5), (L + 6, o6), (L + 7, o7)], h₁.get? p.1 = some p.2 ∧ p.1 ≠ L ∧ (hideAll s.heap [74]).get? p.1 = none := by
      intro p hp
      have z := N p (by revert p; k_allIn)
      refine ⟨z.1, z.2.1, ?_⟩
      cases q : (hideAll s.heap [74]).get? p.1 with
      | none => rfl
      | some o => have := of_hideAll _ q; rw [z.2.2] at this; cases this
    exact news_app (l1 := [(L + 1, o1), (L + 2, o2), (L + 3, o3), (L + 4, o4), (L + 5, o5), (L + 6, o6), (L + 7, o7)]) (l2 := [(74, tabObj #[])]) old fun p hp => by
      rw [List.mem_singleton.mp hp]
      exact ⟨F.keep _ _ h74, Nat.ne_of_lt hlow, f74⟩
  have R₀ : ∀ env, Rm (A.deeper env) 12 := fun env => R.deeper env
  refine seg0 (s₁ := s) G₀ (R₀ _) F₀ N₀ d1 d2 d3 d4 d5 d6 d7 hlow hbare rfl rfl (upL F hl) hi hlen ?_
  intro s2 g2 b T2
  refine seg1 G₀ (R₀ _) T2 ?_
  intro s3 g3 tx T3
  refine seg2 G₀ (R₀ _) T3 ?_
  intro s4 g4 m4 Tg ts rs T4 hTg htl hTt hrs
  refine seg3 G₀ (R₀ _) T4 hTg htl hTt hrs ?_
  intro s5 g5 D ws T5 k5 hD hTD
  refine seg4 G₀ (R₀ _) T5 hTg (upS k5 htl) hTt hrs ?_
  intro s6 g6 x l vs T6 k6 S hl' hTd
  have hs : (rs.foldl ins []).Pairwise (· < ·) := insAll_sorted .nil
  have hD6 := upS k6 hD
  have htl6 := upS k6 (upS k5 htl)
  refine seg5 G₀ f74 M₀ ((R₀ _).less (by omega)) T6 S hl' hTd hs hD6 hTD ?_
  intro s7 g7 ps T7 k7
  have S7 := S.stays k7
  have hl7 := upS k7 hl'
  have hD7 := upS k7 hD6
  have ht7 := upS k7 htl6
  clear T2 T3 T4 T5 T6 S hl' hD6 htl6 hD htl
  refine seg6 G₀ ((R₀ _).less (by omega)) T7 ?_
  intro s8 g8 m8 i j ti tj T8 k8 hi8 hj8 hth8
  have S8 := S7.stays k8
  have hl8 := upS k8 hl7
  have hD8 := upS k8 hD7
  have ht8 := upS k8 ht7
  clear T7 S7 hl7 hD7 ht7
  refine seg8 G₀ ((R₀ _).less (by omega)) hg T8 S8 hl8 hTd hs hD8 hTD hi8 hj8 ?_
  intro s9 g9 T9 k9
  have S9 := S8.stays k9
  have hl9 := upS k9 hl8
  have hD9 := upS k9 hD8
  have ht9 := upS k9 ht8
  clear T8 S8 hl8 hD8 ht8
  refine seg9 G₀ ((R₀ _).less (by omega)) T9 ?_
  intro s10 g10 m10 O es ys T10 k10 hO hOl hTs hes hth10
  have S10 := S9.stays k10
  have hl10 := upS k10 hl9
  have hD10 := upS k10 hD9
  have ht10 := upS k10 ht9
  clear T9 S9 hl9 hD9 ht9
  refine seg10 G₀ ((R₀ _).less (by omega)) T10 hO hOl hTs hes ?_
  intro s11 g11 m11 V T11 k11 hV hVl hth11 hO11
  have S11 := S10.stays k11
  have hl11 := upS k11 hl10
  have hD11 := upS k11 hD10
  have ht11 := upS k11 ht10
  have hOl11 := upS k11 hOl
  have hTs11 := hTs.stays k11
  clear T10 S10 hl10 hD10 ht10 hOl hTs
  refine seg11 G₀ ((R₀ _).less (by omega)) T11 (hO11.trans hO) hOl11 hTs11 hes ?_
  intro s12 g12 m12 Rw T12 k12 hRw hth12 hO12 hev12
  have S12 := S11.stays k12
  have hl12 := upS k12 hl11
  have hD12 := upS k12 hD11
  have ht12 := upS k12 ht11
  have hOl12 := upS k12 hOl11
  have hTs12 := hTs11.stays k12
  have hVl12 := upS k12 hVl
  clear T11 S11 hl11 hD11 ht11 hOl11 hTs11 hVl
  have eT12 : m12 "things" = some (.ref Tg) := hth12.trans (hth11.trans (hth10.trans (hth8.trans hTg)))
  refine seg12 G₀ ((R₀ _).less (by omega)) T12 hTs12 hes hRw eT12 ht12 hTt hrs ?_
  intro s14 g14 m14 U us T14 k14 hU hUl hTu hth14 hO14 hev14
  have S14 := S12.stays k14
  have hl14 := upS k14 hl12
  have hD14 := upS k14 hD12
  have ht14 := upS k14 ht12
  have hOl14 := upS k14 hOl12
  have hTs14 := hTs12.stays k14
  have hVl14 := upS k14 hVl12
  have hRw14 := upS k14 hRw
  clear T12 S12 hl12 hD12 ht12 hOl12 hTs12 hVl12 hRw
  have eV14 : m14 "every" = some (.ref V) := hev14.trans (hev12.trans hV)
  have eO14 : m14 "others" = some (.ref O) := hO14.trans (hO12.trans (hO11.trans hO))
  have eT14 : m14 "things" = some (.ref Tg) := hth14.trans eT12
  have hul : us.size < 200 := by
    have e1 := hTu.len.trans (Array.length_toList (xs := us))
    have e2 := flat_len hTs14
    rw [List.length_append] at e1
    omega
  refine seg14 G₀ (R₀ _) T14 S14 hl14 hTd hs rfl hTs14 hes eV14 hVl14 hU hUl hTu hul ?_
  intro s15 g15 T15 k15
  have S15 := S14.stays k15
  have hl15 := upS k15 hl14
  have hD15 := upS k15 hD14
  have ht15 := upS k15 ht14
  have hOl15 := upS k15 hOl14
  have hTs15 := hTs14.stays k15
  have hVl15 := upS k15 hVl14
  have hRw15 := upS k15 hRw14
  clear T14 S14 hl14 hD14 ht14 hOl14 hTs14 hVl14 hRw14
  refine seg15 G₀ (R₀ _) T15 S15 hl15 hTd hs hD15 hTD hTs15 hes eV14 hVl15 hRw15 ?_
  intro s16 g16 T16 k16
  have S16 := S15.stays k16
  have hl16 := upS k16 hl15
  have hD16 := upS k16 hD15
  have ht16 := upS k16 ht15
  have hOl16 := upS k16 hOl15
  have hTs16 := hTs15.stays k16
  have hVl16 := upS k16 hVl15
  have hRw16 := upS k16 hRw15
  clear T15 S15 hl15 hD15 ht15 hOl15 hTs15 hVl15 hRw15
  refine seg16 G₀ (R₀ _) T16 S16 hl16 hTd hs hD16 hTD hTs16 hes eV14 hVl16 hRw16 ?_
  intro s17 g17 T17 k17
  have S17 := S16.stays k17
  have hl17 := upS k17 hl16
  have hD17 := upS k17 hD16
  have ht17 := upS k17 ht16
  have hOl17 := upS k17 hOl16
  have hTs17 := hTs16.stays k17
  clear T16 S16 hl16 hD16 ht16 hOl16 hTs16 hVl16 hRw16
  refine seg17 G₀ (R₀ _) T17 S17 hl17 hTd hs hD17 hTD hTs17 hes eO14 hOl17 ?_
  intro s18 g18 m18 v5' T18 k18 hth18
  have S18 := S17.stays k18
  have hl18 := upS k18 hl17
  have hD18 := upS k18 hD17
  have ht18 := upS k18 ht17
  clear T17 S17 hl17 hD17 ht17 hOl17 hTs17
  refine seg18 G₀ (R₀ _) T18 S18 hl18 hTd hs hD18 hTD ?_
  intro s19 g19 T19 k19
  have S19 := S18.stays k19
  have hl19 := upS k19 hl18
  have hD19 := upS k19 hD18
  have ht19 := upS k19 ht18
  clear T18 S18 hl18 hD18 ht18
  refine seg19 (ws := ts) G₀ (R₀ _) T19 S19 hl19 hTd hs (hth18.trans eT14) ht19 hTt hrs rfl ?_
  intro s21 g21 y ly mv qs T21 k21 Sy hTy hqs hsub
  have S21 := S19.stays k21
  have hl21 := upS k21 hl19
  have hD21 := upS k21 hD19
  clear T19 S19 hl19 hD19 ht19
  refine seg21 G₀ (R₀ _) T21 S21 hl21 hTd hs hD21 hTD Sy hTy hqs hsub ?_
  intro s22 g22 T22 k22
  have S22 := S21.stays k22
  have hl22 := upS k22 hl21
  have hD22 := upS k22 hD21
  have Sy22 := Sy.stays k22
  clear T21 S21 hl21 hD21 Sy
  refine seg22 G₀ (R₀ _) T22 S22 hl22 hTd hs hD22 hTD ?_
  intro s23 g23 m23 T23 k23
  refine seg23 G₀ (R₀ _) T23 (S22.stays k23) (upS k23 hl22) hTd hs (upS k23 hD22) hTD (Sy22.stays k23) hTy hqs ?_
  intro s' kk e74 hb' ho'
  exact fin s' ps (fun q o hq e => kk q o (hide74 e fun h => hq (List.mem_singleton.mpr h))) e74 hb' ho'
end
end Mine

end

open PySem PySem.W PyProof.Rows in
example : True := by
  w_top off
  trivial
open PySem PySem.W PyProof.Rows in
example {M : Model} {A : Around} {E : Value → Shared → Prop} {s : Shared} {Q : Unit → Shared → Prop} (h : Q () s) : wpAny M A (pure ()) Q E s := by
  first
    | (walk1; exact h)
    | exact wpAny_pure h
section
open PySem PySem.W PyProof.Rows PySem.Calls PyProof.Rows.LCg
set_option Elab.async false
set_option maxRecDepth 100000
set_option maxHeartbeats 4000000
set_option linter.unusedVariables false
set_option pp.deepTerms.threshold 5
set_option pp.maxSteps 2000
namespace Mine
-- HEAD
example : PySem.Challenge.rw_vk0007_01 = PySem.Challenge.rw_vk0007_01 ∧ hd.heap_39 = hd.heap_39 := by
  k_fill
  exact ⟨rfl, rfl⟩
local macro_rules | `(tactic| walk_at "getAttr ref") => `(tactic| ((with_reducible show wpAny _ _ (getAttr _ (PySem.Str.ofString "_items") _) _ _ _); k_dflt (refine items_at (by assumption) (by assumption) (SetIs.stays (by assumption) (Fr.keep (by assumption))) ?_)))
local macro_rules | `(tactic| walk_at "getMethod ref") => `(tactic| k_dflt (refine' meth_at ?f ?g ?s ?k1 ?k2 ?k3 ?k4 ?_; (case f => assumption); (case g => assumption); (case s => first | assumption | exact SetIs.stays (by assumption) (Fr.keep (by assumption))); (case k1 => k_is); (case k2 => k_is); (case k3 => k_is); (case k4 => decide)))
local macro_rules | `(tactic| walk_at "eval Name") => `(tactic| k_dflt (first
  | (refine' nameX_L ?hf ?hv ?_; (case hf => assumption); (case hv => first | (with_unfolding_all rfl) | (with_unfolding_all assumption)))
  | (refine name_B (by assumption) (by assumption) (by k_is) (by first | exact boot_reversed | exact boot_list | exact boot_range | exact boot_tuple | rfl) (by decide) ?_)
  | (refine name_G (by assumption) (by assumption) (by k_is) ?_)))
local macro_rules | `(tactic| walk_at "m_mem") => `(tactic| first | exact List.Mem.head _ | assumption | (apply List.Mem.tail; walk_at "m_mem"))
local macro_rules | `(tactic| walk_at "eval Name") => `(tactic| k_dflt (first
  | (refine' nm_L ?hf ?hv ?_; (case hf => assumption); (case hv => first | (with_unfolding_all rfl) | (with_unfolding_all assumption)))
  | (refine' nm_C ?hn ?hc ?hm ?hd ?_; (case hn => assumption); (case hc => rfl); (case hm => walk_at "m_mem"); (case hd => with_unfolding_all assumption))
  | (refine' nm_F ?hn ?hc ?hm ?hd ?_; (case hn => assumption); (case hc => rfl); (case hm => walk_at "m_mem"); (case hd => with_unfolding_all assumption))
  | (refine nm_B (by assumption) (by assumption) (by k_is) (by first | exact boot_reversed | exact boot_list | exact boot_range | exact boot_tuple | rfl) (by decide) ?_)
  | (refine nm_G (by assumption) (by assumption) (by k_is) ?_)))
local macro_rules | `(tactic| walk_at "getAttr ref") => `(tactic| ((with_reducible show wpAny _ _ (getAttr _ (PySem.Str.ofString "__class__") _) _ _ _); k_dflt (refine class_at (by assumption) (by assumption) (SetIs.stays (by assumption) (Fr.keep (by assumption))) ?_)))
local macro_rules | `(tactic| walk_at "m_suf") => `(tactic| repeat' (first | exact suf_self _ | assumption | apply suf_cons))
local macro_rules | `(tactic| walk_at "eval ListComp") => `(tactic| k_dflt (refine start_comp _ (by intro _; rfl) (by rfl) rfl (by decide) ?_))
local macro_rules | `(tactic| walk_at "exec Assign cons ListComp") => `(tactic| k_dflt (refine wpAny_Assign_Name ?_))
-- BODY
/-- the fragment, with the table of __eq__'s code object as it stands before any call -/
noncomputable def K2 (P : Params) : Frag := (74, { cls := .none, data := .fields #[] }) :: hd.heap_39 P
theorem k2_in {P : Params} {h : Heap} (X : (K2 P).In h) : (hd.heap_39 P).In h ∧ h.get? 74 = some (tabObj #[]) := by
  refine ⟨fun a o e => X a o ?_, X 74 _ (by rfl)⟩
  by_cases q : a = 74
  · rw [q, lookup74] at e; cases e
  · show (((74, _) :: hd.heap_39 P : Frag).lookup a) = some o
    rw [List.lookup_cons]
    rw [show (a == 74) = false from beq_eq_false_iff_ne.mpr q]
    exact e
theorem law_holds : PySem.Challenge.rw_vk0007_01.Holds := by
  w_on
  o_law
  o_head (kHook K2 [74, 2, 3, 15, 17, 18, 20, 21, 22, 29, 30, 31, 33, 34, 36, 37, 38, 40, 41, 43, 44, 45, 47, 48, 50, 51, 52, 54, 55, 57, 58, 59, 61, 62, 64, 65, 66, 68, 69, 71, 72, 73, 75, 76, 78, 79, 80, 82, 83, 85, 86, 87, 89, 90, 92, 93, 94, 96, 97, 99, 100, 101, 103, 104, 106, 107, 108, 110, 111, 113, 114, 115, 117, 118, 120, 121, 122, 124, 125, 127, 128, 129, 131, 132, 134, 135, 136, 138, 139, 141, 142, 143, 145, 146, 148, 149, 150, 152, 153, 155, 156, 157, 159, 160, 162, 163, 164, 166, 167, 169, 170, 171, 173, 174, 176, 177, 178, 180, 181, 183, 184, 185, 187, 188, 190, 191, 192, 194, 195, 197, 198, 199, 201, 202, 204, 205, 206, 208, 209, 211, 212, 213, 215, 216, 218, 219, 220, 222, 223, 225, 226, 227, 229, 230, 232, 233, 234, 236, 237, 239, 240, 241, 243, 244, 246, 247, 248, 250, 251, 253, 254, 255, 257, 258, 260, 261, 262, 264, 265, 267, 268, 269, 271, 272, 274, 275, 276, 278, 279, 281, 282, 283, 285, 286, 288, 289, 290, 292, 293, 295, 296, 297, 299, 300, 302, 303, 304, 305, 306, 307, 308, 311, 313, 314, 316, 317, 318, 320, 321, 323, 324, 325, 327, 328, 330, 331, 332, 335, 336, 337, 339, 340, 342, 343, 344, 346, 347, 349, 350, 351, 354, 355] (fun _ => by kernel_rfl))
  case hw => w_witness2
  intro w s₀ s₁ mg mb G Y fa o pm cd doc dV kV ho hd' hcd hD hmg hg args vals as hpre hlay hrd hwl hlo
  obtain ⟨KX, h74⟩ := k2_in (kIn_of Y)
  refine Ground.open G ?_
  intro T B D TE TW
  try (refine guard_noD D (by decide +kernel) ?_; clear D)
  obtain ⟨bm, obm, M⟩ := bmod_of_top T
  wrow_args hpre hlay hrd hwl hlo
  all_goals (try refine callC_kw ?_)
  rename IntsAre _ _ => hI
  rename ¬((63 : Nat) : Int) < _ => hcond
  have hT := topRead_of T
  have e355 : mg "law" = some (.ref 355) := mg_of KX hT.g (by k_is)
  have hfa : fa = 355 := by
    have q : mg "law" = some (.ref fa) := hmg
    rw [e355] at q
    exact ((Value.ref.inj (Option.some.inj q))).symm
  clear hmg hd' hcd hD ho
  subst hfa
  have K1 : s₁.heap.TableAt 78 74 #[] := (code78 w KX h74).2
  have Ro : Rm callerA 13 := ⟨rfl, by decide +kernel, by decide +kernel⟩
  have hln := hI.length
  refine law_spec (Q := fun v s' => GoodWG _ _ _ _ s₁ (.ok (.ret v)) s') (mg := mg) (mb := mb) ⟨KX, hT⟩ h74 M (.of_eq hg) Ro rfl (by assumption) hI (by omega) ?_
  intro s' ps koff e74 hb' ho'
  have hold : OldK s₁.heap s'.heap := (OldK.refl s₁.heap).step_table K1 K1 (more := ps) (by
    obtain ⟨⟨o, vs, e, r⟩, _⟩ := K1
    rw [show (#[] : Array Value) ++ ps = ps by simp]
    exact ⟨⟨o, vs, koff _ _ (by decide) e, r⟩, e74⟩) (fun q o hq e => koff q o (fun z => hq (List.mem_singleton.mp z)) e) (by decide)
  refine ⟨.inl ⟨.bool true, .bool true, [], rfl, ?_, .bool true, ?_, ?_⟩, hold, ho', hb'⟩
  · intro cls
    rfl
  · wrow_post
  · exact fun _ => ⟨List.nodup_nil, fun a ha => nomatch ha⟩
end Mine

end

theorem PySem.Challenge.cw_vk0007_01_holds : PySem.Challenge.rw_vk0007_01.Holds :=
  Mine.law_holds
