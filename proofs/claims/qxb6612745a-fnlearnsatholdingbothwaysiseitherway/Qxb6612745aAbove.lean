/- Tree.above (46): the nearest directory above a path that the tree holds. -/
import Derived.Test.Qxb6612745aTree
namespace Go.Proofs.Qxb6612745a
open Go.RowKit

/-- s lies beneath the directory d: d, a slash, and more. -/
def Under (d s : ByteArray) : Prop := ∃ r, s.data.toList = d.data.toList ++ 47 :: r

theorem size_data (s : ByteArray) : s.size = s.data.toList.length := by rw [Array.length_toList]; rfl

theorem get_data (s : ByteArray) (j : Nat) (h : j < s.size) : s.data.toList[j]? = some s[j] := by
  rw [List.getElem?_eq_getElem (by rw [← size_data]; exact h)]
  simp
  rfl

theorem extract_take (s : ByteArray) (i : Nat) : (s.extract 0 i).data.toList = s.data.toList.take i := by
  simp [ByteArray.data_extract, Array.toList_extract]

theorem data_inj {a b : ByteArray} (h : a.data.toList = b.data.toList) : a = b := ByteArray.ext (Array.toList_inj.mp h)

theorem Under.ne {d s : ByteArray} (h : Under d s) : s ≠ d := by
  obtain ⟨r, h⟩ := h
  intro e
  subst e
  have := congrArg List.length h
  simp at this

theorem Under.notEmpty {d s : ByteArray} (h : Under d s) : s.toList.isEmpty = false := by
  obtain ⟨r, h⟩ := h
  rw [ByteArray.toList_eq, h]
  cases d.data.toList <;> rfl

theorem Under.parent {d s q : ByteArray} (h : Under d s) (hp : IsParent s q) : q = d ∨ (Under d q ∧ q.size < s.size) := by
  obtain ⟨r, h⟩ := h
  have hd : d.size < s.size := by rw [size_data, size_data, h]; simp
  have hslash : s[d.size] = 47 := by
    have h1 := get_data s d.size hd
    rw [h, List.getElem?_append_right (by rw [← size_data]; exact Nat.le_refl _)] at h1
    rw [show d.size - d.data.toList.length = 0 by rw [← size_data]; omega] at h1
    simp at h1
    exact h1.symm
  rcases hp with ⟨hno, _⟩ | ⟨i, hi, hc, hno, rfl⟩
  · exact absurd hslash (hno _ hd)
  · have hle : d.size ≤ i := by
      rcases Nat.lt_or_ge i d.size with hlt | hge
      · exact absurd hslash (hno _ hd hlt)
      · exact hge
    rcases Nat.eq_or_lt_of_le hle with he | hlt
    · left
      refine data_inj ?_
      rw [extract_take, h, ← he, size_data]
      simp
    · right
      refine ⟨⟨r.take (i - d.size - 1), ?_⟩, ?_⟩
      · rw [extract_take, h, List.take_append, List.take_of_length_le (by rw [← size_data]; omega), ← size_data]
        congr 1
        obtain ⟨n, hn⟩ : ∃ n, i - d.size = n + 1 := ⟨i - d.size - 1, by omega⟩
        rw [hn]; simp
      · rw [size_data (s.extract 0 i), extract_take]; simp; omega

/-- The parent of a path that is not empty is shorter. -/
theorem parent_lt {s q : ByteArray} (hp : IsParent s q) (hs : 0 < s.size) : q.size < s.size := by
  rcases hp with ⟨_, rfl⟩ | ⟨i, hi, _, _, rfl⟩
  · simpa using hs
  · rw [size_data (s.extract 0 i), extract_take]; simp; omega

/-- The length of a string in a slot, for a loop's measure. -/
def strLen : Value → Nat | .string s => s.size | _ => 0

set_option maxRecDepth 100000 in
set_option maxHeartbeats 400000 in
theorem above46 (m : Nat) (f : ByteArray → Option Value) (d q : ByteArray) (E : Array Value) (w : World) (hq : q.size ≤ 9223372036854775807) (hE : One E) (hm : Maps w m f) (hd : f d = some (.agg E)) (hn : ∀ s, s ≠ d → f s = none) (hu : Under d q) :
    Calls Try.prog 46 #[.map (some m), .string q] w fun e w' => e = .returned (.tuple #[.string d, .bool true]) ∧ Below w.heap.size w w' := by
  have HD : Hid (f d = some (.agg E)) := hd
  have HN : Hid (∀ s, s ≠ d → f s = none) := hn
  have HU : Hid (Under d q) := hu
  clear hd hn hu
  go_enter Try.func46, Try.ntmps46
  go_wp2
  go_loopw [1] (fun v wr => ∃ s : ByteArray, v = .string s ∧ s.size ≤ 9223372036854775807 ∧ Hid (Under d s) ∧ Below w.heap.size w wr) (fun v _ => strLen v)
  case atStart => exact ⟨q, rfl, hq, HU, Below.refl _ _⟩
  case round =>
    obtain ⟨s, rfl, hs, HS, hb⟩ := hrel
    have hne := HS.out.notEmpty
    have hmw := hm.below hb
    go_wp2_with fail
    refine (parent52 s _ hs).mono ?_
    rintro e w' ⟨⟨t, rfl, hpar⟩, hw⟩
    subst hw
    rcases HS.out.parent hpar with rfl | ⟨hut, hlt⟩
    · clear hpar
      go_wp2_with ((with_reducible refine stop34 ?_ ?_); · exact rfl)
      refine Stop.go (wpList_look_hit _ _ (by rfl) (by rfl) m _ f _ (by rfl) (by rfl) hmw HD.out ?_)
      go_wp2_with ((with_reducible refine stop34 ?_ ?_); · exact rfl)
      refine Stop.go (wpList_alloc_ent (by rfl) (by rfl) ?_)
      intro b1 w1 lo1 hi1 he1 hb1
      go_wp2_with ((with_reducible refine stop34 ?_ ?_); · exact rfl)
      refine Stop.go (wpList_store_ent _ _ (by rfl) (by rfl) _ _ E (by rfl) (by rfl) he1 hE ?_)
      intro w2 he2 ht2
      go_wp2_with ((with_reducible refine stop34 ?_ ?_); · exact rfl)
      go_ret2
      exact ⟨rfl, (hb.trans (hb1.mono hb.size)).trans (ht2.below (Nat.le_trans hb.size lo1))⟩
    · have HT : Hid (Under d t) := hut
      have HL : Hid (t.size < s.size) := hlt
      have hts : t.size ≤ 9223372036854775807 := by omega
      clear hpar hut hlt
      go_wp2_with ((with_reducible refine stop34 ?_ ?_); · exact rfl)
      refine Stop.go (wpList_look_miss _ _ (by rfl) (by rfl) m _ f (by rfl) (by rfl) hmw (HN.out _ HT.out.ne) ?_)
      go_wp2_with ((with_reducible refine stop34 ?_ ?_); · exact rfl)
      refine Stop.go (wpList_alloc_ent (by rfl) (by rfl) ?_)
      intro b1 w1 lo1 hi1 he1 hb1
      go_wp2_with ((with_reducible refine stop34 ?_ ?_); · exact rfl)
      refine Stop.go (wpList_store_ent _ _ (by rfl) (by rfl) _ _ ent0 (by rfl) (by rfl) he1 One.zero ?_)
      intro w2 he2 ht2
      go_wp2_with ((with_reducible refine stop34 ?_ ?_); · exact rfl)
      go_roundw
      case rel => exact ⟨t, rfl, hts, HT, (hb.trans (hb1.mono hb.size)).trans (ht2.below (Nat.le_trans hb.size lo1))⟩
      case measure => exact HL.out

set_option maxRecDepth 100000 in
set_option maxHeartbeats 400000 in
theorem above46_none (m : Nat) (f : ByteArray → Option Value) (q : ByteArray) (w : World) (hq : q.size ≤ 9223372036854775807) (hm : Maps w m f) (hn : ∀ s, f s = none) :
    Calls Try.prog 46 #[.map (some m), .string q] w fun e w' => e = .returned (.tuple #[.string ⟨#[]⟩, .bool false]) ∧ Below w.heap.size w w' := by
  have HN : Hid (∀ s, f s = none) := hn
  clear hn
  go_enter Try.func46, Try.ntmps46
  go_wp2
  go_loopw [1] (fun v wr => ∃ s : ByteArray, v = .string s ∧ s.size ≤ 9223372036854775807 ∧ Below w.heap.size w wr) (fun v _ => strLen v)
  case atStart => exact ⟨q, rfl, hq, Below.refl _ _⟩
  case round =>
    obtain ⟨s, rfl, hs, hb⟩ := hrel
    have hmw := hm.below hb
    cases hne : s.toList.isEmpty with
    | true =>
      go_wp2_with fail
      go_ret2
      exact ⟨rfl, hb⟩
    | false =>
      have hpos : 0 < s.size := by
        rw [size_data]
        rw [ByteArray.toList_eq] at hne
        cases hd : s.data.toList with
        | nil => rw [hd] at hne; cases hne
        | cons x l => simp
      go_wp2_with fail
      refine (parent52 s _ hs).mono ?_
      rintro e w' ⟨⟨t, rfl, hpar⟩, hw⟩
      subst hw
      have HL : Hid (t.size < s.size) := parent_lt hpar hpos
      have hts : t.size ≤ 9223372036854775807 := by have := HL.out; omega
      clear hpar hpos
      go_wp2_with ((with_reducible refine stop34 ?_ ?_); · exact rfl)
      refine Stop.go (wpList_look_miss _ _ (by rfl) (by rfl) m _ f (by rfl) (by rfl) hmw (HN.out _) ?_)
      go_wp2_with ((with_reducible refine stop34 ?_ ?_); · exact rfl)
      refine Stop.go (wpList_alloc_ent (by rfl) (by rfl) ?_)
      intro b1 w1 lo1 hi1 he1 hb1
      go_wp2_with ((with_reducible refine stop34 ?_ ?_); · exact rfl)
      refine Stop.go (wpList_store_ent _ _ (by rfl) (by rfl) _ _ ent0 (by rfl) (by rfl) he1 One.zero ?_)
      intro w2 he2 ht2
      go_wp2_with ((with_reducible refine stop34 ?_ ?_); · exact rfl)
      go_roundw
      case rel => exact ⟨t, rfl, hts, (hb.trans (hb1.mono hb.size)).trans (ht2.below (Nat.le_trans hb.size lo1))⟩
      case measure => exact HL.out

end Go.Proofs.Qxb6612745a
