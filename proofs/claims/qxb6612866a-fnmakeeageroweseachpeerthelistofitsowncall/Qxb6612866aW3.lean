/- The walk of FnMakeEagerTurnsALazyPeerEagerAndOwesItTheUnannounced (3). -/
import Derived.Test.Qxb6612866aRound
namespace Go.Proofs.Qxb6612866a
open Go.RowKit

theorem mem_take {l : List Int} {k : Nat} (h : k < l.length) (x : Int) : (if x = at_ l k then (true = true) else x ∈ l.take k) ↔ x ∈ l.take (k + 1) := by
  rw [List.take_succ_eq_append_getElem h, ← at_eq l k h]
  by_cases hx : x = at_ l k
  · simp [hx]
  · simp [hx]

/-- The node while its lazy peers are laid: those of ps. -/
def St1 (B bn gn cn : Nat) (l ps : List Int) (w : World) : Prop :=
  ∃ (lz : Value) (F : List Bool), Nd w bn (.slice (some ⟨gn, 0, none⟩) l.length cn) lz (.slice none 0 0) (.map none) ∧ Lz w B bn (some ⟨gn, 0, none⟩) lz F ∧ Row w (some ⟨gn, 0, none⟩) l ∧ Marks l (· ∈ ps) F

theorem St1.st3 {B bn gn cn : Nat} {l ps : List Int} {w : World} (h : St1 B bn gn cn l ps w) : St3 B bn gn cn l none 0 [] (· ∈ ps) 0 (fun _ => none) none w := by
  obtain ⟨lz, F, h1, h2, h3, h4⟩ := h
  exact ⟨lz, _, F, fun _ => none, h1, h2, h3, h4, Row.nil _ _, (fun x hx => by cases hx), (fun _ _ x hx => by cases hx), (fun x hx => by cases hx), Or.inl ⟨rfl, rfl, fun _ => rfl⟩, (fun _ => rfl), (fun _ hg => by cases hg)⟩

/-- P without y. -/
def Less (P : Int → Prop) (y : Int) : Int → Prop := fun x => if x = y then false = true else P x
def Owes (owes : Bool) (l : List Int) (P : Int → Prop) (y : Int) (u : List Int) : Prop := owes = true ↔ LazyIn l P y ∧ u ≠ []
/-- What a round leaves. -/
def Aft (B bn gn cn : Nat) (l : List Int) (au : Option Addr) (cu : Nat) (u : List Int) (P : Int → Prop) (K : Option Nat) (y : Int) (owes : Bool) (w : World) : Prop :=
  St3 B bn gn cn l au cu u (Less P y) owes.toNat (fun s => if s = y ∧ owes = true then some u else none) K w
theorem Aft.below {B bn gn cn : Nat} {l : List Int} {au : Option Addr} {cu : Nat} {u : List Int} {P : Int → Prop} {K : Option Nat} {y : Int} {owes : Bool} {w w' : World} (h : Aft B bn gn cn l au cu u P K y owes w) (hb : Below w.heap.size w w') : Aft B bn gn cn l au cu u P K y owes w' := St3.below h hb
theorem Aft.len {B bn gn cn : Nat} {l : List Int} {au : Option Addr} {cu : Nat} {u : List Int} {P : Int → Prop} {K : Option Nat} {y : Int} {owes : Bool} {w : World} (h : Aft B bn gn cn l au cu u P K y owes w) :
    Calls Try.prog 18 #[.pointer (some ⟨bn, 0, none⟩)] w fun e w' => e = .returned (.int .i64 owes.toNat) ∧ w' = w := owedLenSt h (by cases owes <;> simp)
/-- Before the k-th round: nothing is owed yet, or what the first round has left. -/
def Run (B bn gn cn : Nat) (l : List Int) (au : Option Addr) (cu : Nat) (u : List Int) (P : Int → Prop) (K : Option Nat) (y : Int) (owes : Bool) (k : Nat) (w : World) : Prop :=
  (k = 0 → St3 B bn gn cn l au cu u P 0 (fun _ => none) K w) ∧ (k ≠ 0 → Aft B bn gn cn l au cu u P K y owes w)

theorem eagerRun (B bn gn cn : Nat) (l : List Int) (au : Option Addr) (cu : Nat) (u : List Int) (P : Int → Prop) (K : Option Nat) (y : Int) (owes : Bool) (k : Nat) (w : World) (hB : B ≤ bn) (hgn : gn ≠ bn) (ha : Asc l) (hl : l.length ≤ 1000000) (hul : u.length ≤ 1000000)
    (ho : Owes owes l P y u) (h : Run B bn gn cn l au cu u P K y owes k w) :
    Calls Try.prog 13 #[.pointer (some ⟨bn, 0, none⟩), .int .i64 y] w fun e w' => Done e ∧ Below B w w' ∧ (∀ g, K = some g → w'.heap[g]? = w.heap[g]?) ∧ Aft B bn gn cn l au cu u P K y owes w' := by
  by_cases hk : k = 0
  · refine (eagerSt B bn gn cn l au cu u P 0 _ K y w hB hgn ha hl hul (h.1 hk) (fun _ => rfl)).mono ?_
    rintro e w' ⟨h1, h2, h3, ⟨h4, h5⟩ | ⟨h4, h5⟩⟩
    · have hf : owes = false := by cases owes with
        | false => rfl
        | true => exact absurd (ho.1 rfl) h4
      subst hf
      exact ⟨h1, h2, h3, h5.congr (fun _ => Iff.rfl) (fun s => by simp)⟩
    · have ht := ho.2 h4
      subst ht
      exact ⟨h1, h2, h3, h5.congr (fun _ => Iff.rfl) (fun s => by simp)⟩
  · have hn : ¬ LazyIn l (Less P y) y := fun h => absurd h.2 (by simp [Less])
    refine (eagerSt B bn gn cn l au cu u _ _ _ K y w hB hgn ha hl hul (h.2 hk) (fun hz => absurd hz hn)).mono ?_
    rintro e w' ⟨h1, h2, h3, ⟨h4, h5⟩ | ⟨h4, h5⟩⟩
    · refine ⟨h1, h2, h3, h5.congr (fun x => ?_) (fun s => rfl)⟩
      by_cases hx : x = y <;> simp [hx, Less]
    · exact absurd h4.1 hn

theorem Flags.of_block {w w' : World} {g : Nat} {G : List Bool} (h : Flags w g G) (hs : w'.heap[g]? = w.heap[g]?) : Flags w' g G := by
  obtain ⟨C, c0, c1⟩ := h
  exact ⟨C, hs.trans c0, c1⟩

theorem lazyIn_found {l : List Int} {P : Int → Prop} {G : List Bool} {y : Int} {j : Nat} (hM : Marks l P G) (hF : Found l y j) (hD : j < l.length ∧ at_ l j = y) : LazyIn l P y ↔ bt_ G j = true := by
  rw [hM.2 j hD.1, hD.2]
  exact ⟨fun h => h.2, fun h => ⟨⟨j, hF, hD⟩, h⟩⟩
theorem lazyIn_not {l : List Int} {P : Int → Prop} {y : Int} {j : Nat} (hF : Found l y j) (hD : ¬ (j < l.length ∧ at_ l j = y)) : ¬ LazyIn l P y := by
  rintro ⟨⟨k, h1, h2⟩, _⟩
  exact hD (by rw [hF.unique h1]; exact h2)

set_option maxRecDepth 100000 in
set_option maxHeartbeats 8000000 in
theorem walk3 (x y : Int) (a1 a2 a3 : Option Addr) (c1 c2 c3 : Nat) (l1 l2 l3 : List Int) (w : World) (hl1 : l1.length ≤ 9223372036854775807) (hl2 : l2.length ≤ 9223372036854775807) (hl3 : l3.length ≤ 9223372036854775807)
    (hr1 : Row w a1 l1) (hr2 : Row w a2 l2) (hr3 : Row w a3 l3) :
    Calls Try.prog 3 #[.int .i64 x, .slice a1 l1.length c1, .slice a2 l2.length c2, .slice a3 l3.length c3, .int .i64 y] w fun e w' => e = .returned (.bool true) ∧ Below w.heap.size w w' := by
  have R1 : Hid (Row w a1 l1) := hr1
  have R2 : Hid (Row w a2 l2) := hr2
  have R3 : Hid (Row w a3 l3) := hr3
  clear hr1 hr2 hr3
  go_enter Try.func3, Try.ntmps3
  go_wp2_with fail
  refine (bytes5 x y a1 a2 a3 c1 c2 c3 l1 l2 l3 _ hl1 hl2 hl3).mono ?_
  rintro e w' ⟨⟨b, rfl⟩, hw⟩
  rw [hw]
  clear hw w'
  cases b with
  | false =>
    go_wp2_with fail
    go_ret
    exact ⟨rfl, Below.refl _ _⟩
  | true =>
    go_wp2_with fail
    all_goals (try (go_ret; exact ⟨rfl, Below.refl _ _⟩))
    have M1 : l1.length ≤ 65536 := by omega
    have M2 : l2.length ≤ 65536 := by omega
    have M3 : l3.length ≤ 65536 := by omega
    refine (asc6 _ _ _ _ hl1 R1.out).mono ?_
    rintro e z1 ⟨⟨b, rfl, hq⟩, hb1⟩
    cases b with
    | false =>
      clear hq
      go_wp2_with fail
      go_ret
      exact ⟨rfl, hb1⟩
    | true =>
    have HA : Hid (Asc l1) := hq.1 rfl
    clear hq
    go_wp2_with fail
    refine (toIDs8 _ _ _ _ (by omega) (R1.out.below hb1)).mono ?_
    rintro e z2 ⟨⟨g0, c0, rfl, hg0, hfl0, _⟩, hb2⟩
    have hb2 := hb1.trans (hb2.mono hb1.size)
    go_wp2_with fail
    refine (znew7 _ g0 c0 l1 _ (by omega) hfl0.row).mono ?_
    rintro e z3 ⟨⟨bn, rfl, hnew⟩, hb3⟩
    have hb3 := hb2.trans (hb3.mono hb2.size)
    have HNew : Hid (NewNd z2 l1 bn z3) := hnew
    clear hnew hfl0
    go_wp2_with fail
    obtain ⟨gn, cn, q1, q2, q3, q4, q5⟩ := HNew.out
    have hO : Off (some ⟨gn, 0, none⟩) bn := fun x hx => by cases hx; exact q3
    have HS : Hid (St1 w.heap.size bn gn cn l1 (l2.take 0) z3) := ⟨_, _, q5, Or.inl ⟨rfl, _, rfl⟩, q4, (Marks.start l1).congr (by simp)⟩
    have hBn : w.heap.size ≤ bn := by have := hb2.size; omega
    clear HNew q1 q2 q3 q4 q5
    go_loopw [65] (fun i wr => ∃ k : Nat, k ≤ l2.length ∧ i = .int .i64 k ∧ Hid (St1 w.heap.size bn gn cn l1 (l2.take k) wr) ∧ Below w.heap.size w wr) (fun i _ => l2.length - (intOf i).toNat)
    case atStart => exact ⟨0, by omega, rfl, HS, hb3⟩
    case round =>
      clear HS hb3
      obtain ⟨k, hk, rfl, HS, hb⟩ := hrel
      by_cases hlt : k < l2.length
      · obtain ⟨b, off, rfl, c0⟩ := (R2.out.below hb) k hlt
        have i1 : (0 : Int) ≤ (k : Int) := by omega
        have i2 : (k : Int) < (l2.length : Int) := by omega
        go_wp2_with fail
        obtain ⟨lz, F, s1, s2, s3, s4⟩ := HS.out
        refine (setLazy9 w.heap.size bn _ cn lz _ _ l1 F (at_ l2 k) true wr hBn hO s1 s3 HA.out (by omega) s4.1 s2).mono ?_
        rintro e w1 ⟨he, hb1', lz1, F1, t1, t2, t3, t4, _⟩
        obtain rfl : e = .returned (.tuple #[]) := he
        have HS1 : Hid (St1 w.heap.size bn gn cn l1 (l2.take (k + 1)) w1) := by
          exact ⟨lz1, F1, t2, t3, t4, (s4.setF HA.out t1).congr (mem_take hlt)⟩
        clear s1 s2 s3 s4 t1 t2 t3 t4
        go_wp2_with fail
        go_roundw
        case rel => exact ⟨k + 1, by omega, by go_num, HS1, hb.trans hb1'⟩
        case measure => simp [intOf]; omega
      · have hk' : k = l2.length := by omega
        have HS2 : Hid (St1 w.heap.size bn gn cn l1 l2 wr) := by have := HS.out; rw [List.take_of_length_le (by omega)] at this; exact this
        clear HS hk'
        go_wp2_with fail
        refine (clone11 _ _ _ _ (by omega) (R3.out.below hb)).mono ?_
        rintro e v1 ⟨hcl, hbv⟩
        obtain ⟨au, cu, rfl, hau, hau2⟩ : ∃ au cu, e = .returned (.slice au l3.length cu) ∧ Row v1 au l3 ∧ ∀ x, au = some x → wr.heap.size ≤ x.block ∧ x.block < v1.heap.size := by
          rcases hcl with ⟨ha3, rfl⟩ | ⟨_, g, cap, rfl, h1, h2, _⟩
          · have : l3 = [] := by have := R3.out; rw [ha3] at this; exact this.none
            exact ⟨none, 0, by rw [this]; rfl, by rw [this]; exact Row.nil _ _, fun x hx => by cases hx⟩
          · exact ⟨_, cap, rfl, h2.row, fun x hx => by cases hx; exact ⟨h1, h2.lt⟩⟩
        clear hcl
        go_wp2_with fail
        refine (unSt w.heap.size bn gn cn l1 none 0 [] (· ∈ l2) 0 (fun _ => none) au cu l3 wr v1 hBn (hO _ rfl) HS2.out.st3 hbv hau hau2).mono ?_
        rintro e v2 ⟨he, hT, h3⟩
        obtain rfl : e = .returned (.tuple #[]) := he
        have HS3 : Hid (St3 w.heap.size bn gn cn l1 au cu l3 (· ∈ l2) 0 (fun _ => none) none v2) := h3
        have HB2 : Hid (Below w.heap.size w v2) := (hb.trans (hbv.mono hb.size)).trans hT
        clear h3 hT hau hau2 HS2 hb hbv
        go_wp2_with ((with_reducible refine stopN ?_ ?_); · exact rfl)
        refine Stop.go (wpList_make33 _ _ (by rfl) (by rfl) l1.length (by omega) (by rfl) (by rfl) ?_)
        intro gw v3 hgw hFw hbw
        have HM : Hid (Marks l1 (· ∈ l2.take 0) (List.replicate l1.length false)) := (Marks.start l1).congr (by simp)
        go_wp2_with ((with_reducible refine stopN ?_ ?_); · exact rfl)
        have HFw : Hid (Flags v3 gw (List.replicate l1.length false)) := hFw
        clear hFw
        go_loopw [82] (fun i wr => ∃ (k : Nat) (G : List Bool), k ≤ l2.length ∧ i = .int .i64 k ∧ Hid (Flags wr gw G) ∧ Hid (Marks l1 (· ∈ l2.take k) G) ∧ Below v2.heap.size v2 wr) (fun i _ => l2.length - (intOf i).toNat)
        case atStart => exact ⟨0, _, by omega, rfl, HFw, HM, hbw⟩
        case round =>
          clear HFw HM hbw
          obtain ⟨k, G, hk, rfl, HFw, HM, hbw⟩ := hrel
          have HBw : Hid (Below w.heap.size w wr) := HB2.out.trans (hbw.mono HB2.out.size)
          by_cases hlt : k < l2.length
          · obtain ⟨b, off, rfl, c0⟩ := (R2.out.below HBw.out) k hlt
            have i1 : (0 : Int) ≤ (k : Int) := by omega
            have i2 : (k : Int) < (l2.length : Int) := by omega
            go_wp2_with fail
            refine (find12 _ _ l1 (at_ l2 k) _ (by omega) (R1.out.below HBw.out) HA.out).mono ?_
            rintro e t1 ⟨⟨j, he, hFd⟩, hbt⟩
            have HFd : Hid (Found l1 (at_ l2 k) j) := hFd
            have HFt : Hid (Flags t1 gw G) := HFw.out.below hbt
            have hbw1 := hbw.trans (hbt.mono hbw.size)
            clear hFd hbt
            by_cases hd : j < l1.length ∧ at_ l1 j = at_ l2 k
            · rw [decide_eq_true hd] at he
              subst he
              have HD : Hid (j < l1.length ∧ at_ l1 j = at_ l2 k) := hd
              have hj := hd.1
              clear hd
              have j1 : (0 : Int) ≤ (j : Int) := by omega
              have j2 : (j : Int) < (l1.length : Int) := by omega
              go_wp2_with ((with_reducible refine stopN ?_ ?_); · exact rfl)
              refine Stop.go (wpList_store1 (v := .bool true) (b := gw) (i := j) sz4 _ _ (by rfl) (by rfl) (by rfl) (by rfl) rfl rfl (u := .bool (bt_ G j)) (by simpa using HFt.out.cell (i := j) (by rw [HM.out.1]; exact hj)) (by simpa using HFt.out.frozen j) ?_)
              intro t2 ht2
              have HFt2 : Hid (Flags t2 gw (G.set j true)) := by rw [ht2]; exact HFt.out.set (by rw [HM.out.1]; exact hj) true
              have hT : Turned t1 t2 gw := by rw [ht2]; exact setCell_turned ..
              clear ht2
              go_wp2_with fail
              go_roundw
              case rel => exact ⟨k + 1, _, by omega, by go_num, HFt2, ((HM.out.set HA.out HD.out.1 HD.out.2 rfl).congr (mem_take hlt) : Marks l1 (· ∈ l2.take (k + 1)) (G.set j true)), hbw1.trans (hT.below hgw)⟩
              case measure => simp [intOf]; omega
            · rw [decide_eq_false hd] at he
              subst he
              have HD : Hid (¬ (j < l1.length ∧ at_ l1 j = at_ l2 k)) := hd
              clear hd
              go_wp2_with fail
              go_roundw
              case rel => exact ⟨k + 1, G, by omega, by go_num, HFt, ((HM.out.keep (b := true) HFd.out HD.out HA.out).congr (mem_take hlt) : Marks l1 (· ∈ l2.take (k + 1)) G), hbw1⟩
              case measure => simp [intOf]; omega
          · have HM2 : Hid (Marks l1 (· ∈ l2) G) := by have := HM.out; rw [List.take_of_length_le (by omega)] at this; exact this
            clear HM
            go_wp2_with fail
            refine (find12 _ _ l1 y _ (by omega) (R1.out.below HBw.out) HA.out).mono ?_
            rintro e t1 ⟨⟨j, he, hFd⟩, hbt⟩
            have HFd : Hid (Found l1 y j) := hFd
            have HFt : Hid (Flags t1 gw G) := HFw.out.below hbt
            have hbw1 := hbw.trans (hbt.mono hbw.size)
            clear hFd hbt HFw hbw HBw
            have HBt : Hid (Below w.heap.size w t1) := HB2.out.trans (hbw1.mono HB2.out.size)
            by_cases hd : j < l1.length ∧ at_ l1 j = y
            · rw [decide_eq_true hd] at he
              subst he
              have HD : Hid (j < l1.length ∧ at_ l1 j = y) := hd
              have hj := hd.1
              clear hd
              have j1 : (0 : Int) ≤ (j : Int) := by omega
              have j2 : (j : Int) < (l1.length : Int) := by omega
              have x3 := HFt.out.cell (i := j) (by rw [HM2.out.1]; exact hj)
              have HZ : Hid (LazyIn l1 (· ∈ l2) y ↔ bt_ G j = true) := lazyIn_found HM2.out HFd.out HD.out
              have x4 := HFt.out.frozen j
              generalize hgj : bt_ G j = gj at x3 HZ
              by_cases h0 : 0 < l3.length
              · have hd0 : Hid (decide (0 < l3.length) = true) := decide_eq_true h0
                have i0 : (0 : Int) < (l3.length : Int) := by omega
                have hne : l3 ≠ [] := by intro e; rw [e] at h0; exact absurd h0 (by simp)
                cases gj with
                | true =>
                  have HO : Hid (Owes true l1 (· ∈ l2) y l3) := ⟨fun _ => ⟨HZ.out.2 rfl, hne⟩, fun _ => rfl⟩
                  clear HZ hne h0
                  go_wp2_with ((with_reducible refine stopN ?_ ?_); · exact rfl)
                  refine Stop.go (wpList_store1 (v := .bool false) (b := gw) (i := j) sz4 _ _ (by rfl) (by rfl) (by rfl) (by rfl) rfl rfl (u := .bool (bt_ G j)) (by simpa using HFt.out.cell (i := j) (by rw [HM2.out.1]; exact hj)) (by simpa using x4) ?_)
                  intro t2 ht2
                  have HFt2 : Hid (Flags t2 gw (G.set j false)) := by rw [ht2]; exact HFt.out.set (by rw [HM2.out.1]; exact hj) false
                  have hT : Turned t1 t2 gw := by rw [ht2]; exact setCell_turned ..
                  have hbw2 := hbw1.trans (hT.below hgw)
                  have HM3 : Hid (Marks l1 (Less (· ∈ l2) y) (G.set j false)) := HM2.out.set HA.out HD.out.1 HD.out.2 rfl
                  have HS4 : Hid (Run w.heap.size bn gn cn l1 au cu l3 (· ∈ l2) (some gw) y true 0 t2) := ⟨fun _ => HS3.out.aside hbw2 hgw HFt2.out, fun h => absurd rfl h⟩
                  have HBt2 : Hid (Below w.heap.size w t2) := HB2.out.trans (hbw2.mono HB2.out.size)
                  clear ht2 hT HM2 HS3 hbw1 hbw2 HFd x3 x4 HD hgj HFt HBt
                  generalize G.set j false = G2 at HFt2 HM3
                  go_wp2_with ((with_reducible refine stopN ?_ ?_); · exact rfl)
                  (try rw [hd0.out])
                  go_loopw [23] (fun i wr => ∃ k : Nat, k ≤ 2 ∧ i = .int .i64 k ∧ Hid (Run w.heap.size bn gn cn l1 au cu l3 (· ∈ l2) (some gw) y true k wr) ∧ Hid (Flags wr gw G2) ∧ Hid (Below w.heap.size w wr)) (fun i _ => 2 - (intOf i).toNat)
                  case atStart => exact ⟨0, by omega, rfl, HS4, HFt2, HBt2⟩
                  case round =>
                    clear HS4 HFt2 HBt2
                    obtain ⟨k, hk, rfl, HS4, HFr, HBr⟩ := hrel
                    by_cases hlt : k < 2
                    · have i2 : (k : Int) < 2 := by omega
                      go_wp2_with fail
                      refine (eagerRun w.heap.size bn gn cn l1 au cu l3 (· ∈ l2) (some gw) y true k _ hBn (hO _ rfl) HA.out (by omega) (by omega) HO.out HS4.out).mono ?_
                      rintro e r1 ⟨he, hb1', hs1, h3⟩
                      obtain rfl : e = .returned (.tuple #[]) := he
                      have HS5 : Hid (Aft w.heap.size bn gn cn l1 au cu l3 (· ∈ l2) (some gw) y true r1) := h3
                      have HF1 : Hid (Flags r1 gw G2) := HFr.out.of_block (hs1 gw rfl)
                      have HB1 : Hid (Below w.heap.size w r1) := HBr.out.trans hb1'
                      clear hs1 h3 hb1' HS4 HFr HBr
                      go_wp2_with fail
                      refine (lazySt HS5.out).mono ?_
                      rintro e w' ⟨⟨lz, rfl, hlz⟩, hw⟩
                      rw [hw]
                      clear hw w'
                      have HL : Hid (LzIs w.heap.size bn gn l1 (Less (· ∈ l2) y) lz r1) := hlz
                      clear hlz
                      go_wp2_with fail
                      refine (matchSt w.heap.size bn gn l1 _ lz gw _ G2 _ (by omega) HL.out HF1.out HM3.out).mono ?_
                      rintro e r2 ⟨rfl, hb2'⟩
                      have HS6 : Hid (Aft w.heap.size bn gn cn l1 au cu l3 (· ∈ l2) (some gw) y true r2) := HS5.out.below hb2'
                      have HF2 : Hid (Flags r2 gw G2) := HF1.out.below hb2'
                      have HB2' : Hid (Below w.heap.size w r2) := HB1.out.trans (hb2'.mono HB1.out.size)
                      clear hb2' HS5 HF1 HB1 HL
                      go_wp2_with fail
                      refine (owedSome HS6.out y (us := l3) (by simp)).mono ?_
                      rintro e w' ⟨⟨g, c, rfl, hg⟩, hw⟩
                      rw [hw]
                      clear hw w'
                      have HG : Hid (Row r2 (some ⟨g, 0, none⟩) l3) := hg
                      clear hg
                      go_wp2_with fail
                      refine (equal17 _ _ c _ l3 l3 _ hl3 HG.out (R3.out.below HB2'.out)).mono ?_
                      rintro e r3 ⟨he, hb3'⟩
                      rw [decide_eq_true rfl] at he
                      subst he
                      have HS7 : Hid (Aft w.heap.size bn gn cn l1 au cu l3 (· ∈ l2) (some gw) y true r3) := HS6.out.below hb3'
                      have HF3 : Hid (Flags r3 gw G2) := HF2.out.below hb3'
                      have HB3 : Hid (Below w.heap.size w r3) := HB2'.out.trans (hb3'.mono HB2'.out.size)
                      clear hb3' HS6 HF2 HB2' HG
                      go_wp2_with fail
                      refine (HS7.out.len).mono ?_
                      rintro e w' ⟨rfl, hw⟩
                      rw [hw]
                      clear hw w'
                      go_wp2_with fail
                      go_roundw
                      case rel => exact ⟨k + 1, by omega, by go_num, ⟨(fun h => by cases h), fun _ => HS7.out⟩, HF3, HB3⟩
                      case measure => simp [intOf]; omega
                    · have i2 : ¬ (k : Int) < 2 := by omega
                      go_wp2_with fail
                      go_ret
                      exact ⟨rfl, HBr.out⟩
                | false =>
                  have HO : Hid (Owes false l1 (· ∈ l2) y l3) := ⟨(fun h => by cases h), fun h => HZ.out.1 h.1⟩
                  clear HZ hne h0
                  go_wp2_with ((with_reducible refine stopN ?_ ?_); · exact rfl)
                  refine Stop.go (wpList_store1 (v := .bool false) (b := gw) (i := j) sz4 _ _ (by rfl) (by rfl) (by rfl) (by rfl) rfl rfl (u := .bool (bt_ G j)) (by simpa using HFt.out.cell (i := j) (by rw [HM2.out.1]; exact hj)) (by simpa using x4) ?_)
                  intro t2 ht2
                  have HFt2 : Hid (Flags t2 gw (G.set j false)) := by rw [ht2]; exact HFt.out.set (by rw [HM2.out.1]; exact hj) false
                  have hT : Turned t1 t2 gw := by rw [ht2]; exact setCell_turned ..
                  have hbw2 := hbw1.trans (hT.below hgw)
                  have HM3 : Hid (Marks l1 (Less (· ∈ l2) y) (G.set j false)) := HM2.out.set HA.out HD.out.1 HD.out.2 rfl
                  have HS4 : Hid (Run w.heap.size bn gn cn l1 au cu l3 (· ∈ l2) (some gw) y false 0 t2) := ⟨fun _ => HS3.out.aside hbw2 hgw HFt2.out, fun h => absurd rfl h⟩
                  have HBt2 : Hid (Below w.heap.size w t2) := HB2.out.trans (hbw2.mono HB2.out.size)
                  clear ht2 hT HM2 HS3 hbw1 hbw2 HFd x3 x4 HD hgj HFt HBt
                  generalize G.set j false = G2 at HFt2 HM3
                  go_wp2_with ((with_reducible refine stopN ?_ ?_); · exact rfl)
                  (try rw [hd0.out])
                  go_loopw [23] (fun i wr => ∃ k : Nat, k ≤ 2 ∧ i = .int .i64 k ∧ Hid (Run w.heap.size bn gn cn l1 au cu l3 (· ∈ l2) (some gw) y false k wr) ∧ Hid (Flags wr gw G2) ∧ Hid (Below w.heap.size w wr)) (fun i _ => 2 - (intOf i).toNat)
                  case atStart => exact ⟨0, by omega, rfl, HS4, HFt2, HBt2⟩
                  case round =>
                    clear HS4 HFt2 HBt2
                    obtain ⟨k, hk, rfl, HS4, HFr, HBr⟩ := hrel
                    by_cases hlt : k < 2
                    · have i2 : (k : Int) < 2 := by omega
                      go_wp2_with fail
                      refine (eagerRun w.heap.size bn gn cn l1 au cu l3 (· ∈ l2) (some gw) y false k _ hBn (hO _ rfl) HA.out (by omega) (by omega) HO.out HS4.out).mono ?_
                      rintro e r1 ⟨he, hb1', hs1, h3⟩
                      obtain rfl : e = .returned (.tuple #[]) := he
                      have HS5 : Hid (Aft w.heap.size bn gn cn l1 au cu l3 (· ∈ l2) (some gw) y false r1) := h3
                      have HF1 : Hid (Flags r1 gw G2) := HFr.out.of_block (hs1 gw rfl)
                      have HB1 : Hid (Below w.heap.size w r1) := HBr.out.trans hb1'
                      clear hs1 h3 hb1' HS4 HFr HBr
                      go_wp2_with fail
                      refine (lazySt HS5.out).mono ?_
                      rintro e w' ⟨⟨lz, rfl, hlz⟩, hw⟩
                      rw [hw]
                      clear hw w'
                      have HL : Hid (LzIs w.heap.size bn gn l1 (Less (· ∈ l2) y) lz r1) := hlz
                      clear hlz
                      go_wp2_with fail
                      refine (matchSt w.heap.size bn gn l1 _ lz gw _ G2 _ (by omega) HL.out HF1.out HM3.out).mono ?_
                      rintro e r2 ⟨rfl, hb2'⟩
                      have HS6 : Hid (Aft w.heap.size bn gn cn l1 au cu l3 (· ∈ l2) (some gw) y false r2) := HS5.out.below hb2'
                      have HF2 : Hid (Flags r2 gw G2) := HF1.out.below hb2'
                      have HB2' : Hid (Below w.heap.size w r2) := HB1.out.trans (hb2'.mono HB1.out.size)
                      clear hb2' HS5 HF1 HB1 HL
                      go_wp2_with fail
                      refine (owedNone HS6.out y (by simp)).mono ?_
                      rintro e w' ⟨rfl, hw⟩
                      rw [hw]
                      clear hw w'
                      have HS7 := HS6
                      have HF3 := HF2
                      have HB3 := HB2'
                      clear HS6 HF2 HB2'
                      go_wp2_with fail
                      refine (HS7.out.len).mono ?_
                      rintro e w' ⟨rfl, hw⟩
                      rw [hw]
                      clear hw w'
                      go_wp2_with fail
                      go_roundw
                      case rel => exact ⟨k + 1, by omega, by go_num, ⟨(fun h => by cases h), fun _ => HS7.out⟩, HF3, HB3⟩
                      case measure => simp [intOf]; omega
                    · have i2 : ¬ (k : Int) < 2 := by omega
                      go_wp2_with fail
                      go_ret
                      exact ⟨rfl, HBr.out⟩
              · have hne : l3 = [] := by cases l3 with
                  | nil => rfl
                  | cons x l => exact absurd (by simp) h0
                have hd0 : Hid (decide (0 < l3.length) = false) := decide_eq_false h0
                have i0 : ¬ (0 : Int) < (l3.length : Int) := by omega
                have HO : Hid (Owes false l1 (· ∈ l2) y l3) := ⟨(fun h => by cases h), fun h => absurd hne h.2⟩
                clear HZ hne h0
                cases gj with
                | true =>
                  go_wp2_with ((with_reducible refine stopN ?_ ?_); · exact rfl)
                  refine Stop.go (wpList_store1 (v := .bool false) (b := gw) (i := j) sz4 _ _ (by rfl) (by rfl) (by rfl) (by rfl) rfl rfl (u := .bool (bt_ G j)) (by simpa using HFt.out.cell (i := j) (by rw [HM2.out.1]; exact hj)) (by simpa using x4) ?_)
                  intro t2 ht2
                  have HFt2 : Hid (Flags t2 gw (G.set j false)) := by rw [ht2]; exact HFt.out.set (by rw [HM2.out.1]; exact hj) false
                  have hT : Turned t1 t2 gw := by rw [ht2]; exact setCell_turned ..
                  have hbw2 := hbw1.trans (hT.below hgw)
                  have HM3 : Hid (Marks l1 (Less (· ∈ l2) y) (G.set j false)) := HM2.out.set HA.out HD.out.1 HD.out.2 rfl
                  have HS4 : Hid (Run w.heap.size bn gn cn l1 au cu l3 (· ∈ l2) (some gw) y false 0 t2) := ⟨fun _ => HS3.out.aside hbw2 hgw HFt2.out, fun h => absurd rfl h⟩
                  have HBt2 : Hid (Below w.heap.size w t2) := HB2.out.trans (hbw2.mono HB2.out.size)
                  clear ht2 hT HM2 HS3 hbw1 hbw2 HFd x3 x4 HD hgj HFt HBt
                  generalize G.set j false = G2 at HFt2 HM3
                  go_wp2_with ((with_reducible refine stopN ?_ ?_); · exact rfl)
                  (try rw [hd0.out])
                  go_loopw [23] (fun i wr => ∃ k : Nat, k ≤ 2 ∧ i = .int .i64 k ∧ Hid (Run w.heap.size bn gn cn l1 au cu l3 (· ∈ l2) (some gw) y false k wr) ∧ Hid (Flags wr gw G2) ∧ Hid (Below w.heap.size w wr)) (fun i _ => 2 - (intOf i).toNat)
                  case atStart => exact ⟨0, by omega, rfl, HS4, HFt2, HBt2⟩
                  case round =>
                    clear HS4 HFt2 HBt2
                    obtain ⟨k, hk, rfl, HS4, HFr, HBr⟩ := hrel
                    by_cases hlt : k < 2
                    · have i2 : (k : Int) < 2 := by omega
                      go_wp2_with fail
                      refine (eagerRun w.heap.size bn gn cn l1 au cu l3 (· ∈ l2) (some gw) y false k _ hBn (hO _ rfl) HA.out (by omega) (by omega) HO.out HS4.out).mono ?_
                      rintro e r1 ⟨he, hb1', hs1, h3⟩
                      obtain rfl : e = .returned (.tuple #[]) := he
                      have HS5 : Hid (Aft w.heap.size bn gn cn l1 au cu l3 (· ∈ l2) (some gw) y false r1) := h3
                      have HF1 : Hid (Flags r1 gw G2) := HFr.out.of_block (hs1 gw rfl)
                      have HB1 : Hid (Below w.heap.size w r1) := HBr.out.trans hb1'
                      clear hs1 h3 hb1' HS4 HFr HBr
                      go_wp2_with fail
                      refine (lazySt HS5.out).mono ?_
                      rintro e w' ⟨⟨lz, rfl, hlz⟩, hw⟩
                      rw [hw]
                      clear hw w'
                      have HL : Hid (LzIs w.heap.size bn gn l1 (Less (· ∈ l2) y) lz r1) := hlz
                      clear hlz
                      go_wp2_with fail
                      refine (matchSt w.heap.size bn gn l1 _ lz gw _ G2 _ (by omega) HL.out HF1.out HM3.out).mono ?_
                      rintro e r2 ⟨rfl, hb2'⟩
                      have HS6 : Hid (Aft w.heap.size bn gn cn l1 au cu l3 (· ∈ l2) (some gw) y false r2) := HS5.out.below hb2'
                      have HF2 : Hid (Flags r2 gw G2) := HF1.out.below hb2'
                      have HB2' : Hid (Below w.heap.size w r2) := HB1.out.trans (hb2'.mono HB1.out.size)
                      clear hb2' HS5 HF1 HB1 HL
                      go_wp2_with fail
                      refine (owedNone HS6.out y (by simp)).mono ?_
                      rintro e w' ⟨rfl, hw⟩
                      rw [hw]
                      clear hw w'
                      have HS7 := HS6
                      have HF3 := HF2
                      have HB3 := HB2'
                      clear HS6 HF2 HB2'
                      go_wp2_with fail
                      refine (HS7.out.len).mono ?_
                      rintro e w' ⟨rfl, hw⟩
                      rw [hw]
                      clear hw w'
                      go_wp2_with fail
                      go_roundw
                      case rel => exact ⟨k + 1, by omega, by go_num, ⟨(fun h => by cases h), fun _ => HS7.out⟩, HF3, HB3⟩
                      case measure => simp [intOf]; omega
                    · have i2 : ¬ (k : Int) < 2 := by omega
                      go_wp2_with fail
                      go_ret
                      exact ⟨rfl, HBr.out⟩
                | false =>
                  go_wp2_with ((with_reducible refine stopN ?_ ?_); · exact rfl)
                  refine Stop.go (wpList_store1 (v := .bool false) (b := gw) (i := j) sz4 _ _ (by rfl) (by rfl) (by rfl) (by rfl) rfl rfl (u := .bool (bt_ G j)) (by simpa using HFt.out.cell (i := j) (by rw [HM2.out.1]; exact hj)) (by simpa using x4) ?_)
                  intro t2 ht2
                  have HFt2 : Hid (Flags t2 gw (G.set j false)) := by rw [ht2]; exact HFt.out.set (by rw [HM2.out.1]; exact hj) false
                  have hT : Turned t1 t2 gw := by rw [ht2]; exact setCell_turned ..
                  have hbw2 := hbw1.trans (hT.below hgw)
                  have HM3 : Hid (Marks l1 (Less (· ∈ l2) y) (G.set j false)) := HM2.out.set HA.out HD.out.1 HD.out.2 rfl
                  have HS4 : Hid (Run w.heap.size bn gn cn l1 au cu l3 (· ∈ l2) (some gw) y false 0 t2) := ⟨fun _ => HS3.out.aside hbw2 hgw HFt2.out, fun h => absurd rfl h⟩
                  have HBt2 : Hid (Below w.heap.size w t2) := HB2.out.trans (hbw2.mono HB2.out.size)
                  clear ht2 hT HM2 HS3 hbw1 hbw2 HFd x3 x4 HD hgj HFt HBt
                  generalize G.set j false = G2 at HFt2 HM3
                  go_wp2_with ((with_reducible refine stopN ?_ ?_); · exact rfl)
                  (try rw [hd0.out])
                  go_loopw [23] (fun i wr => ∃ k : Nat, k ≤ 2 ∧ i = .int .i64 k ∧ Hid (Run w.heap.size bn gn cn l1 au cu l3 (· ∈ l2) (some gw) y false k wr) ∧ Hid (Flags wr gw G2) ∧ Hid (Below w.heap.size w wr)) (fun i _ => 2 - (intOf i).toNat)
                  case atStart => exact ⟨0, by omega, rfl, HS4, HFt2, HBt2⟩
                  case round =>
                    clear HS4 HFt2 HBt2
                    obtain ⟨k, hk, rfl, HS4, HFr, HBr⟩ := hrel
                    by_cases hlt : k < 2
                    · have i2 : (k : Int) < 2 := by omega
                      go_wp2_with fail
                      refine (eagerRun w.heap.size bn gn cn l1 au cu l3 (· ∈ l2) (some gw) y false k _ hBn (hO _ rfl) HA.out (by omega) (by omega) HO.out HS4.out).mono ?_
                      rintro e r1 ⟨he, hb1', hs1, h3⟩
                      obtain rfl : e = .returned (.tuple #[]) := he
                      have HS5 : Hid (Aft w.heap.size bn gn cn l1 au cu l3 (· ∈ l2) (some gw) y false r1) := h3
                      have HF1 : Hid (Flags r1 gw G2) := HFr.out.of_block (hs1 gw rfl)
                      have HB1 : Hid (Below w.heap.size w r1) := HBr.out.trans hb1'
                      clear hs1 h3 hb1' HS4 HFr HBr
                      go_wp2_with fail
                      refine (lazySt HS5.out).mono ?_
                      rintro e w' ⟨⟨lz, rfl, hlz⟩, hw⟩
                      rw [hw]
                      clear hw w'
                      have HL : Hid (LzIs w.heap.size bn gn l1 (Less (· ∈ l2) y) lz r1) := hlz
                      clear hlz
                      go_wp2_with fail
                      refine (matchSt w.heap.size bn gn l1 _ lz gw _ G2 _ (by omega) HL.out HF1.out HM3.out).mono ?_
                      rintro e r2 ⟨rfl, hb2'⟩
                      have HS6 : Hid (Aft w.heap.size bn gn cn l1 au cu l3 (· ∈ l2) (some gw) y false r2) := HS5.out.below hb2'
                      have HF2 : Hid (Flags r2 gw G2) := HF1.out.below hb2'
                      have HB2' : Hid (Below w.heap.size w r2) := HB1.out.trans (hb2'.mono HB1.out.size)
                      clear hb2' HS5 HF1 HB1 HL
                      go_wp2_with fail
                      refine (owedNone HS6.out y (by simp)).mono ?_
                      rintro e w' ⟨rfl, hw⟩
                      rw [hw]
                      clear hw w'
                      have HS7 := HS6
                      have HF3 := HF2
                      have HB3 := HB2'
                      clear HS6 HF2 HB2'
                      go_wp2_with fail
                      refine (HS7.out.len).mono ?_
                      rintro e w' ⟨rfl, hw⟩
                      rw [hw]
                      clear hw w'
                      go_wp2_with fail
                      go_roundw
                      case rel => exact ⟨k + 1, by omega, by go_num, ⟨(fun h => by cases h), fun _ => HS7.out⟩, HF3, HB3⟩
                      case measure => simp [intOf]; omega
                    · have i2 : ¬ (k : Int) < 2 := by omega
                      go_wp2_with fail
                      go_ret
                      exact ⟨rfl, HBr.out⟩
            · rw [decide_eq_false hd] at he
              subst he
              have HO : Hid (Owes false l1 (· ∈ l2) y l3) := ⟨(fun h => by cases h), fun h => absurd h.1 (lazyIn_not HFd.out hd)⟩
              have HM3 : Hid (Marks l1 (Less (· ∈ l2) y) G) := HM2.out.keep HFd.out hd HA.out
              have HS4 : Hid (Run w.heap.size bn gn cn l1 au cu l3 (· ∈ l2) (some gw) y false 0 t1) := ⟨fun _ => HS3.out.aside hbw1 hgw HFt.out, fun h => absurd rfl h⟩
              clear hd HM2 HS3 hbw1 HFd
              go_wp2_with ((with_reducible refine stopN ?_ ?_); · exact rfl)
              go_loopw [23] (fun i wr => ∃ k : Nat, k ≤ 2 ∧ i = .int .i64 k ∧ Hid (Run w.heap.size bn gn cn l1 au cu l3 (· ∈ l2) (some gw) y false k wr) ∧ Hid (Flags wr gw G) ∧ Hid (Below w.heap.size w wr)) (fun i _ => 2 - (intOf i).toNat)
              case atStart => exact ⟨0, by omega, rfl, HS4, HFt, HBt⟩
              case round =>
                clear HS4 HFt HBt
                obtain ⟨k, hk, rfl, HS4, HFr, HBr⟩ := hrel
                by_cases hlt : k < 2
                · have i2 : (k : Int) < 2 := by omega
                  go_wp2_with fail
                  refine (eagerRun w.heap.size bn gn cn l1 au cu l3 (· ∈ l2) (some gw) y false k _ hBn (hO _ rfl) HA.out (by omega) (by omega) HO.out HS4.out).mono ?_
                  rintro e r1 ⟨he, hb1', hs1, h3⟩
                  obtain rfl : e = .returned (.tuple #[]) := he
                  have HS5 : Hid (Aft w.heap.size bn gn cn l1 au cu l3 (· ∈ l2) (some gw) y false r1) := h3
                  have HF1 : Hid (Flags r1 gw G) := HFr.out.of_block (hs1 gw rfl)
                  have HB1 : Hid (Below w.heap.size w r1) := HBr.out.trans hb1'
                  clear hs1 h3 hb1' HS4 HFr HBr
                  go_wp2_with fail
                  refine (lazySt HS5.out).mono ?_
                  rintro e w' ⟨⟨lz, rfl, hlz⟩, hw⟩
                  rw [hw]
                  clear hw w'
                  have HL : Hid (LzIs w.heap.size bn gn l1 (Less (· ∈ l2) y) lz r1) := hlz
                  clear hlz
                  go_wp2_with fail
                  refine (matchSt w.heap.size bn gn l1 _ lz gw _ G _ (by omega) HL.out HF1.out HM3.out).mono ?_
                  rintro e r2 ⟨rfl, hb2'⟩
                  have HS6 : Hid (Aft w.heap.size bn gn cn l1 au cu l3 (· ∈ l2) (some gw) y false r2) := HS5.out.below hb2'
                  have HF2 : Hid (Flags r2 gw G) := HF1.out.below hb2'
                  have HB2' : Hid (Below w.heap.size w r2) := HB1.out.trans (hb2'.mono HB1.out.size)
                  clear hb2' HS5 HF1 HB1 HL
                  go_wp2_with fail
                  refine (owedNone HS6.out y (by simp)).mono ?_
                  rintro e w' ⟨rfl, hw⟩
                  rw [hw]
                  clear hw w'
                  have HS7 := HS6
                  have HF3 := HF2
                  have HB3 := HB2'
                  clear HS6 HF2 HB2'
                  go_wp2_with fail
                  refine (HS7.out.len).mono ?_
                  rintro e w' ⟨rfl, hw⟩
                  rw [hw]
                  clear hw w'
                  go_wp2_with fail
                  go_roundw
                  case rel => exact ⟨k + 1, by omega, by go_num, ⟨(fun h => by cases h), fun _ => HS7.out⟩, HF3, HB3⟩
                  case measure => simp [intOf]; omega
                · have i2 : ¬ (k : Int) < 2 := by omega
                  go_wp2_with fail
                  go_ret
                  exact ⟨rfl, HBr.out⟩

end Go.Proofs.Qxb6612866a
