/- Plain laws on sorted lists of pairs (name, counter): no Go in sight but the order of strings. -/
import GoSem.Op.String
import Derived.Laws.Strings
namespace Go.Proofs.Qxb6612745a

/-- The order of names: byte by byte. -/
def ltB (a b : ByteArray) : Bool := Op.bytesLess a.toList b.toList

theorem bl_irrefl : ∀ x : List UInt8, Op.bytesLess x x = false
  | [] => rfl
  | a :: x => by simp [Op.bytesLess, bl_irrefl x]

theorem bl_trans : ∀ x y z : List UInt8, Op.bytesLess x y = true → Op.bytesLess y z = true → Op.bytesLess x z = true
  | x, [], z, h, _ => by cases x <;> simp [Op.bytesLess] at h
  | x, _ :: _, [], _, h => by simp [Op.bytesLess] at h
  | [], _ :: _, _ :: _, _, _ => by simp [Op.bytesLess]
  | a :: x, b :: y, c :: z, h1, h2 => by
    simp only [Op.bytesLess, Bool.or_eq_true, Bool.and_eq_true, decide_eq_true_eq, beq_iff_eq] at h1 h2 ⊢
    rcases h1 with h1 | ⟨rfl, h1⟩
    · rcases h2 with h2 | ⟨rfl, _⟩
      · exact Or.inl (UInt8.lt_trans h1 h2)
      · exact Or.inl h1
    · rcases h2 with h2 | ⟨rfl, h2⟩
      · exact Or.inl h2
      · exact Or.inr ⟨rfl, bl_trans x y z h1 h2⟩

theorem bl_tri : ∀ x y : List UInt8, Op.bytesLess x y = false → Op.bytesLess y x = false → x = y
  | [], [], _, _ => rfl
  | [], _ :: _, h, _ => by simp [Op.bytesLess] at h
  | _ :: _, [], _, h => by simp [Op.bytesLess] at h
  | a :: x, b :: y, h1, h2 => by
    simp only [Op.bytesLess, Bool.or_eq_false_iff, Bool.and_eq_false_iff, decide_eq_false_iff_not, beq_eq_false_iff_ne, ne_eq] at h1 h2
    have e : a = b := UInt8.le_antisymm (UInt8.not_lt.1 h2.1) (UInt8.not_lt.1 h1.1)
    subst e
    rw [bl_tri x y (h1.2.resolve_left (fun h => h rfl)) (h2.2.resolve_left (fun h => h rfl))]

theorem toList_inj {a b : ByteArray} (h : a.toList = b.toList) : a = b := by
  rw [ByteArray.toList_eq, ByteArray.toList_eq] at h
  exact ByteArray.ext (Array.toList_inj.mp h)

theorem eqB_iff (x y : ByteArray) : (x.toList == y.toList) = true ↔ x = y := by
  rw [beq_iff_eq]; exact ⟨toList_inj, fun h => by rw [h]⟩

theorem eqB_false (x y : ByteArray) : (x.toList == y.toList) = false ↔ x ≠ y := by
  rw [Ne, ← eqB_iff x y, Bool.not_eq_true]

theorem lt_irrefl (a : ByteArray) : ltB a a = false := bl_irrefl _
theorem lt_trans {a b c : ByteArray} (h : ltB a b = true) (k : ltB b c = true) : ltB a c = true := bl_trans _ _ _ h k
theorem lt_tri {a b : ByteArray} (h : ltB a b = false) (k : ltB b a = false) : a = b := toList_inj (bl_tri _ _ h k)
theorem lt_ne {a b : ByteArray} (h : ltB a b = true) : a ≠ b := fun e => by subst e; rw [lt_irrefl] at h; cases h
theorem lt_asymm {a b : ByteArray} (h : ltB a b = true) : ltB b a = false := by
  cases k : ltB b a with
  | false => rfl
  | true => have := lt_trans h k; rw [lt_irrefl] at this; cases this

/-- The i-th pair of a list; behind its end the zero pair. -/
def at_ (l : List (ByteArray × Int)) (i : Nat) : ByteArray × Int := l.getD i (ByteArray.empty, 0)

theorem at_eq (l : List (ByteArray × Int)) (i : Nat) (h : i < l.length) : at_ l i = l[i] := by
  simp [at_, List.getElem?_eq_getElem h]

theorem at_mem {l : List (ByteArray × Int)} {i : Nat} (h : i < l.length) : at_ l i ∈ l := by
  rw [at_eq l i h]; exact List.getElem_mem h

theorem drop_at {l : List (ByteArray × Int)} {i : Nat} (h : i < l.length) : l.drop i = at_ l i :: l.drop (i + 1) := by
  rw [at_eq l i h]; exact List.drop_eq_getElem_cons h

theorem take_at {l : List (ByteArray × Int)} {i : Nat} (h : i < l.length) : l.take (i + 1) = l.take i ++ [at_ l i] := by
  rw [at_eq l i h]; exact List.take_succ_eq_append_getElem h

theorem at_drop (l : List (ByteArray × Int)) (k i : Nat) : at_ (l.drop k) i = at_ l (k + i) := by
  simp [at_]

/-- The counter of a name; 0 where it has none. -/
def valF : List (ByteArray × Int) → ByteArray → Int
  | [], _ => 0
  | e :: l, s => if e.1 = s then e.2 else valF l s

/-- Strictly rising by name; no counter below 0. -/
def Srt (l : List (ByteArray × Int)) : Prop := l.Pairwise fun x y => ltB x.1 y.1 = true
def Pos (l : List (ByteArray × Int)) : Prop := ∀ e ∈ l, 0 ≤ e.2

theorem Pos.nil : Pos [] := fun _ h => by cases h
theorem Pos.drop {l : List (ByteArray × Int)} (h : Pos l) (k : Nat) : Pos (l.drop k) := fun e he => h e (List.mem_of_mem_drop he)

theorem valF_nonneg {l : List (ByteArray × Int)} (h : Pos l) (s : ByteArray) : 0 ≤ valF l s := by
  induction l with
  | nil => simp [valF]
  | cons e l ih =>
    unfold valF
    split
    · exact h e (by simp)
    · exact ih fun x hx => h x (by simp [hx])

theorem valF_notin {l : List (ByteArray × Int)} {s : ByteArray} (h : ∀ e ∈ l, e.1 ≠ s) : valF l s = 0 := by
  induction l with
  | nil => rfl
  | cons e l ih =>
    unfold valF
    rw [if_neg (h e (by simp))]
    exact ih fun x hx => h x (by simp [hx])

theorem valF_mem {l : List (ByteArray × Int)} (hs : Srt l) {e : ByteArray × Int} (he : e ∈ l) : valF l e.1 = e.2 := by
  induction l with
  | nil => cases he
  | cons x l ih =>
    have hs' := List.pairwise_cons.1 hs
    unfold valF
    rcases List.mem_cons.1 he with rfl | he
    · rw [if_pos rfl]
    · rw [if_neg (lt_ne (hs'.1 e he)), ih hs'.2 he]

/-- Behind a head whose name is no smaller: what is left has nothing at that name. -/
theorem valF_behind {x : ByteArray × Int} {l : List (ByteArray × Int)} (hs : Srt (x :: l)) {s : ByteArray} (h : ltB s x.1 = true) : valF (x :: l) s = 0 := by
  refine valF_notin fun e he => ?_
  rcases List.mem_cons.1 he with rfl | he
  · exact fun k => lt_ne h k.symm
  · exact fun k => lt_ne (lt_trans h ((List.pairwise_cons.1 hs).1 e he)) k.symm

/-- At most, name by name. -/
def LE (t u : List (ByteArray × Int)) : Prop := ∀ s, valF t s ≤ valF u s

theorem LE_iff {t u : List (ByteArray × Int)} (ht : Srt t) (hu : Pos u) : LE t u ↔ ∀ e ∈ t, e.2 ≤ valF u e.1 := by
  constructor
  · intro h e he
    have := h e.1
    rwa [valF_mem ht he] at this
  · intro h s
    by_cases hex : ∃ e ∈ t, e.1 = s
    · obtain ⟨e, he, rfl⟩ := hex
      rw [valF_mem ht he]; exact h e he
    · rw [valF_notin (fun e he k => hex ⟨e, he, k⟩)]
      exact valF_nonneg hu s

theorem Srt.drop {l : List (ByteArray × Int)} (h : Srt l) (k : Nat) : Srt (l.drop k) := List.Pairwise.drop h

/-! ### Leq's two loops -/
/-- Ahead of the k-th pair of t, the first j pairs of u being passed over. -/
def LeqInv (t u : List (ByteArray × Int)) (k j : Nat) : Prop :=
  (∀ e ∈ t.take k, e.2 ≤ valF u e.1) ∧ ∀ e ∈ t.drop k, valF u e.1 = valF (u.drop j) e.1

theorem LeqInv.start (t u : List (ByteArray × Int)) : LeqInv t u 0 0 := ⟨fun e he => by simp at he, fun e _ => by simp⟩

theorem LeqInv.pass {t u : List (ByteArray × Int)} {k j : Nat} (h : LeqInv t u k j) (hk : k < t.length) (hj : j < u.length) (ht : Srt t) (hlt : ltB (at_ u j).1 (at_ t k).1 = true) : LeqInv t u k (j + 1) := by
  refine ⟨h.1, fun e he => ?_⟩
  rw [h.2 e he, drop_at hj, valF, if_neg]
  have hd := ht.drop k
  rw [drop_at hk] at he hd
  rcases List.mem_cons.1 he with rfl | he
  · exact lt_ne hlt
  · exact lt_ne (lt_trans hlt ((List.pairwise_cons.1 hd).1 e he))

/-- What the k-th pair of t meets in u. -/
theorem LeqInv.val {t u : List (ByteArray × Int)} {k j : Nat} (h : LeqInv t u k j) (hk : k < t.length) (hu : Srt u)
    (hstop : u.length ≤ j ∨ (j < u.length ∧ ltB (at_ u j).1 (at_ t k).1 = false)) :
    valF u (at_ t k).1 = if u.length ≤ j then 0 else if (at_ u j).1 = (at_ t k).1 then (at_ u j).2 else 0 := by
  rw [h.2 (at_ t k) (by rw [drop_at hk]; simp)]
  rcases hstop with hj | ⟨hj, hnl⟩
  · rw [if_pos hj, List.drop_of_length_le hj]; rfl
  · rw [if_neg (by omega), drop_at hj]
    by_cases e : (at_ u j).1 = (at_ t k).1
    · rw [if_pos e, valF, if_pos e]
    · rw [if_neg e]
      have hd := hu.drop j
      rw [drop_at hj] at hd
      refine valF_behind hd ?_
      cases hl : ltB (at_ t k).1 (at_ u j).1 with
      | true => rfl
      | false => exact absurd (lt_tri hnl hl) e

theorem LeqInv.next {t u : List (ByteArray × Int)} {k j : Nat} (h : LeqInv t u k j) (hk : k < t.length) (hle : (at_ t k).2 ≤ valF u (at_ t k).1) : LeqInv t u (k + 1) j := by
  refine ⟨fun e he => ?_, fun e he => ?_⟩
  · rw [take_at hk] at he
    rcases List.mem_append.1 he with he | he
    · exact h.1 e he
    · simp at he; subst he; exact hle
  · exact h.2 e (by rw [drop_at hk]; exact List.mem_cons_of_mem _ he)

theorem LeqInv.done {t u : List (ByteArray × Int)} {k j : Nat} (h : LeqInv t u k j) (hk : t.length ≤ k) (ht : Srt t) (hu : Pos u) : LE t u := by
  rw [LE_iff ht hu]
  intro e he
  exact h.1 e (by rw [List.take_of_length_le hk]; exact he)

theorem LE_not {t u : List (ByteArray × Int)} (ht : Srt t) {k : Nat} (hk : k < t.length) (h : valF u (at_ t k).1 < (at_ t k).2) : ¬ LE t u := fun hle => by
  have := hle (at_ t k).1
  rw [valF_mem ht (at_mem hk)] at this
  omega

/-! ### Max's loop -/
theorem valF_append {l m : List (ByteArray × Int)} {s : ByteArray} (h : ∀ e ∈ l, e.1 ≠ s) : valF (l ++ m) s = valF m s := by
  induction l with
  | nil => rfl
  | cons e l ih =>
    rw [List.cons_append, valF, if_neg (h e (by simp))]
    exact ih fun x hx => h x (by simp [hx])

theorem valF_append_mem {l m : List (ByteArray × Int)} {s : ByteArray} (h : ∃ e ∈ l, e.1 = s) : valF (l ++ m) s = valF l s := by
  induction l with
  | nil => obtain ⟨e, he, _⟩ := h; cases he
  | cons e l ih =>
    rw [List.cons_append, valF, valF]
    by_cases k : e.1 = s
    · rw [if_pos k, if_pos k]
    · rw [if_neg k, if_neg k]
      obtain ⟨x, hx, hxs⟩ := h
      rcases List.mem_cons.1 hx with rfl | hx
      · exact absurd hxs k
      · exact ih ⟨x, hx, hxs⟩

/-- What has been gathered in m, when t' and u' are still to come. -/
structure MaxInv (t u m t' u' : List (ByteArray × Int)) : Prop where
  st : Srt t'
  su : Srt u'
  pt : Pos t'
  pu : Pos u'
  sm : Srt m
  pm : Pos m
  mt : ∀ x ∈ m, ∀ e ∈ t', ltB x.1 e.1 = true
  mu : ∀ x ∈ m, ∀ e ∈ u', ltB x.1 e.1 = true
  val : ∀ s, max (valF t s) (valF u s) = max (valF m s) (max (valF t' s) (valF u' s))

theorem MaxInv.start {t u : List (ByteArray × Int)} (ht : Srt t) (hu : Srt u) (pt : Pos t) (pu : Pos u) : MaxInv t u [] t u := by
  refine ⟨ht, hu, pt, pu, List.Pairwise.nil, Pos.nil, fun x hx => (by cases hx), fun x hx => (by cases hx), fun s => ?_⟩
  have := valF_nonneg pt s
  simp only [valF]
  omega

theorem Srt.snoc {m : List (ByteArray × Int)} {e : ByteArray × Int} (hm : Srt m) (h : ∀ x ∈ m, ltB x.1 e.1 = true) : Srt (m ++ [e]) := by
  refine List.pairwise_append.2 ⟨hm, List.pairwise_singleton _ _, fun x hx y hy => ?_⟩
  simp at hy; subst hy; exact h x hx

theorem Pos.snoc {m : List (ByteArray × Int)} {e : ByteArray × Int} (hm : Pos m) (h : 0 ≤ e.2) : Pos (m ++ [e]) := by
  intro x hx
  rcases List.mem_append.1 hx with hx | hx
  · exact hm x hx
  · simp at hx; subst hx; exact h

theorem valF_snoc {m : List (ByteArray × Int)} {e : ByteArray × Int} (pm : Pos m) (h : ∀ x ∈ m, ltB x.1 e.1 = true) (he : 0 ≤ e.2) (s : ByteArray) :
    valF (m ++ [e]) s = max (valF m s) (if e.1 = s then e.2 else 0) := by
  have hp := valF_nonneg pm s
  by_cases hex : ∃ x ∈ m, x.1 = s
  · rw [valF_append_mem hex]
    obtain ⟨x, hx, rfl⟩ := hex
    rw [if_neg (fun k => lt_ne (h x hx) k.symm)]
    omega
  · have hno : ∀ x ∈ m, x.1 ≠ s := fun x hx k => hex ⟨x, hx, k⟩
    rw [valF_append hno, valF_notin hno]
    simp only [valF]
    split <;> omega

theorem valF_cons {e : ByteArray × Int} {l : List (ByteArray × Int)} (hs : Srt (e :: l)) (pl : Pos (e :: l)) (s : ByteArray) :
    valF (e :: l) s = max (if e.1 = s then e.2 else 0) (valF l s) := by
  have h0 := valF_nonneg (fun x hx => pl x (List.mem_cons_of_mem _ hx) : Pos l) s
  have he := pl e (by simp)
  rw [valF]
  by_cases k : e.1 = s
  · rw [if_pos k, if_pos k]
    have : valF l s = 0 := valF_notin fun x hx q => lt_ne ((List.pairwise_cons.1 hs).1 x hx) (by rw [q, k])
    omega
  · rw [if_neg k, if_neg k]; omega

theorem Srt.rest {e : ByteArray × Int} {l : List (ByteArray × Int)} (h : Srt (e :: l)) : Srt l := (List.pairwise_cons.1 h).2
theorem Pos.rest {e : ByteArray × Int} {l : List (ByteArray × Int)} (h : Pos (e :: l)) : Pos l := fun x hx => h x (List.mem_cons_of_mem _ hx)

/-- t's head, smaller than all of u'. -/
theorem MaxInv.left {t u m t' u' : List (ByteArray × Int)} {e : ByteArray × Int} (h : MaxInv t u m (e :: t') u') (hlt : ∀ x ∈ u', ltB e.1 x.1 = true) : MaxInv t u (m ++ [e]) t' u' := by
  have he : ∀ x ∈ m, ltB x.1 e.1 = true := fun x hx => h.mt x hx e (by simp)
  have hp := h.pt e (by simp)
  refine ⟨h.st.rest, h.su, h.pt.rest, h.pu, h.sm.snoc he, h.pm.snoc hp, fun x hx y hy => ?_, fun x hx y hy => ?_, fun s => ?_⟩
  · rcases List.mem_append.1 hx with hx | hx
    · exact h.mt x hx y (List.mem_cons_of_mem _ hy)
    · simp at hx; subst hx; exact (List.pairwise_cons.1 h.st).1 y hy
  · rcases List.mem_append.1 hx with hx | hx
    · exact h.mu x hx y hy
    · simp at hx; subst hx; exact hlt y hy
  · rw [h.val s, valF_snoc h.pm he hp, valF_cons h.st h.pt]
    omega

/-- u's head, smaller than all of t', kept. -/
theorem MaxInv.right {t u m t' u' : List (ByteArray × Int)} {e : ByteArray × Int} (h : MaxInv t u m t' (e :: u')) (hlt : ∀ x ∈ t', ltB e.1 x.1 = true) : MaxInv t u (m ++ [e]) t' u' := by
  have he : ∀ x ∈ m, ltB x.1 e.1 = true := fun x hx => h.mu x hx e (by simp)
  have hp := h.pu e (by simp)
  refine ⟨h.st, h.su.rest, h.pt, h.pu.rest, h.sm.snoc he, h.pm.snoc hp, fun x hx y hy => ?_, fun x hx y hy => ?_, fun s => ?_⟩
  · rcases List.mem_append.1 hx with hx | hx
    · exact h.mt x hx y hy
    · simp at hx; subst hx; exact hlt y hy
  · rcases List.mem_append.1 hx with hx | hx
    · exact h.mu x hx y (List.mem_cons_of_mem _ hy)
    · simp at hx; subst hx; exact (List.pairwise_cons.1 h.su).1 y hy
  · rw [h.val s, valF_snoc h.pm he hp, valF_cons h.su h.pu]
    omega

/-- u's head, passed over: it counts nothing. -/
theorem MaxInv.skip {t u m t' u' : List (ByteArray × Int)} {e : ByteArray × Int} (h : MaxInv t u m t' (e :: u')) (h0 : e.2 ≤ 0) : MaxInv t u m t' u' := by
  have hp := h.pu e (by simp)
  refine ⟨h.st, h.su.rest, h.pt, h.pu.rest, h.sm, h.pm, h.mt, fun x hx y hy => h.mu x hx y (List.mem_cons_of_mem _ hy), fun s => ?_⟩
  have h1 := valF_nonneg h.pu.rest s
  rw [h.val s, valF_cons h.su h.pu]
  split <;> omega

/-- Two heads of one name: the larger counter. -/
theorem MaxInv.both {t u m t' u' : List (ByteArray × Int)} {s0 : ByteArray} {x y : Int} (h : MaxInv t u m ((s0, x) :: t') ((s0, y) :: u')) : MaxInv t u (m ++ [(s0, max x y)]) t' u' := by
  have he : ∀ z ∈ m, ltB z.1 s0 = true := fun z hz => h.mt z hz (s0, x) (by simp)
  have hp : 0 ≤ x := h.pt (s0, x) (by simp)
  have hq : 0 ≤ y := h.pu (s0, y) (by simp)
  refine ⟨h.st.rest, h.su.rest, h.pt.rest, h.pu.rest, h.sm.snoc he, h.pm.snoc (by simp; omega), fun z hz v hv => ?_, fun z hz v hv => ?_, fun s => ?_⟩
  · rcases List.mem_append.1 hz with hz | hz
    · exact h.mt z hz v (List.mem_cons_of_mem _ hv)
    · simp at hz; subst hz; exact (List.pairwise_cons.1 h.st).1 v hv
  · rcases List.mem_append.1 hz with hz | hz
    · exact h.mu z hz v (List.mem_cons_of_mem _ hv)
    · simp at hz; subst hz; exact (List.pairwise_cons.1 h.su).1 v hv
  · rw [h.val s, valF_snoc h.pm (by simpa using he) (by simp; omega), valF_cons h.st h.pt, valF_cons h.su h.pu]
    simp only
    split <;> omega

/-- The larger, name by name. -/
def IsMax (t u m : List (ByteArray × Int)) : Prop := Srt m ∧ Pos m ∧ ∀ s, valF m s = max (valF t s) (valF u s)

theorem MaxInv.done {t u m : List (ByteArray × Int)} (h : MaxInv t u m [] []) : IsMax t u m :=
  ⟨h.sm, h.pm, fun s => by rw [h.val s]; have := valF_nonneg h.pm s; simp only [valF]; omega⟩

theorem IsMax.left {t u : List (ByteArray × Int)} (st : Srt t) (pt : Pos t) (h : LE u t) : IsMax t u t :=
  ⟨st, pt, fun s => by have := h s; omega⟩

theorem lt_all {e x : ByteArray × Int} {l : List (ByteArray × Int)} (h : Srt (x :: l)) (hlt : ltB e.1 x.1 = true) : ∀ y ∈ x :: l, ltB e.1 y.1 = true := by
  intro y hy
  rcases List.mem_cons.1 hy with rfl | hy
  · exact hlt
  · exact lt_trans hlt ((List.pairwise_cons.1 h).1 y hy)

/-! ### zzSorted -/
theorem Srt.adj {l : List (ByteArray × Int)} (h : Srt l) {i : Nat} (hi : i + 1 < l.length) : ltB (at_ l i).1 (at_ l (i + 1)).1 = true := by
  rw [at_eq l i (by omega), at_eq l (i + 1) hi]
  exact List.pairwise_iff_getElem.1 h i (i + 1) (by omega) hi (by omega)

theorem srt_of_adj : ∀ {l : List (ByteArray × Int)}, (∀ i, i + 1 < l.length → ltB (at_ l i).1 (at_ l (i + 1)).1 = true) → Srt l
  | [], _ => List.Pairwise.nil
  | [e], _ => List.pairwise_singleton _ _
  | e :: x :: l, h => by
    have ih : Srt (x :: l) := srt_of_adj fun i hi => h (i + 1) (by simpa using hi)
    refine List.pairwise_cons.2 ⟨lt_all ih (h 0 (by simp)), ih⟩

end Go.Proofs.Qxb6612745a
