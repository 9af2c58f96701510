/-
  DERIVED. THE WALKS of the two laws on (*Type).InstanceRequired.
-/
import Derived.Test.Qxb6616680aRows
import Derived.WalkKit
import Derived.WalkSpells
import Derived.WalkLawsBesides
namespace Go.Proofs.Qxb6616680a
open Go.RowKit

/-- The answer for a type of the kind k with the flag ri. -/
def req (ri : Bool) (k : Int) : Bool := ri && (k == 13 || k == 8)

/-- What irType leaves at p: a Type whose kind is k and whose flag is ri. -/
def TypeAt (w : World) (p : Nat) (k : Int) (ri : Bool) : Prop := w.cell? ⟨p, 1, none⟩ = some (.int .i64 k) ∧ w.cell? ⟨p, 14, none⟩ = some (.bool ri)

def MadePost (k : Int) (ri : Bool) (w : World) (e : Ending) (w' : World) : Prop := ∃ p, e = .returned (.pointer (some ⟨p, 0, none⟩)) ∧ TypeAt w' p k ri ∧ Below w.heap.size w w'

set_option maxHeartbeats 400000 in
theorem irType_any (a b c d : ByteArray) (fd k : Int) (ri : Bool) (w : World) :
    Calls Try.prog 20 #[.string a, .string b, .string c, .string d, .int .i64 fd, .int .i64 k, .bool ri] w fun e w' => MadePost k ri w e w' := by
  go_enter Try.func20, Try.ntmps20
  go_wp2
  go_ret
  exact ⟨_, rfl, ⟨by go_simp, by go_simp⟩, (Below.refl _ _).alloc (Nat.le_refl _) _⟩

set_option maxHeartbeats 400000 in
theorem required_any (p : Nat) (k : Int) (ri : Bool) (w : World) (h : TypeAt w p k ri) :
    Calls Try.prog 21 #[.pointer (some ⟨p, 0, none⟩)] w fun e w' => e = .returned (.bool (req ri k)) ∧ w' = w := by
  obtain ⟨h1, h2⟩ := h
  cases ri with
  | false =>
    go_enter Try.func21, Try.ntmps21
    go_wp2
    go_ret
    exact ⟨rfl, rfl⟩
  | true =>
    cases h13 : (k == 13) with
    | true =>
      have hr : req true k = true := by simp [req, h13]
      go_enter Try.func21, Try.ntmps21
      go_wp2
      go_ret
      exact ⟨by rw [hr]; rfl, rfl⟩
    | false =>
      have hr : req true k = (k == 8) := by simp [req, h13]
      go_enter Try.func21, Try.ntmps21
      go_wp2
      go_ret
      exact ⟨by rw [hr]; rfl, rfl⟩

set_option maxHeartbeats 400000 in
theorem bytes19_any (a b c d : ByteArray) (fd k : Int) (ri : Bool) (w : World) :
    Calls Try.prog 19 #[.string a, .string b, .string c, .string d, .int .i64 fd, .int .i64 k, .bool ri] w fun e w' => ∃ r : Bool, e = .returned (.bool r) ∧ w' = w := by
  go_enter Try.func19, Try.ntmps19
  go_wp2
  all_goals (go_ret; exact ⟨_, rfl, rfl⟩)

set_option maxHeartbeats 400000 in
theorem bytes22_any (a b : ByteArray) (ri : Bool) (w : World) :
    Calls Try.prog 22 #[.string a, .string b, .bool ri] w fun e w' => ∃ r : Bool, e = .returned (.bool r) ∧ w' = w := by
  go_enter Try.func22, Try.ntmps22
  go_wp2
  all_goals (go_ret; exact ⟨_, rfl, rfl⟩)

set_option maxHeartbeats 1000000 in
theorem law5_any (a b c d : ByteArray) (fd k : Int) (ri : Bool) (w : World) :
    Calls Try.prog 5 #[.string a, .string b, .string c, .string d, .int .i64 fd, .int .i64 k, .bool ri] w fun e w' => e = .returned (.bool true) ∧ Below w.heap.size w w' := by
  go_enter Try.func5, Try.ntmps5
  go_wp2_with fail
  refine (bytes19_any _ _ _ _ _ _ _ _).mono ?_
  rintro e w ⟨r, rfl, rfl⟩
  cases r
  · go_wp2
    go_ret
    exact ⟨rfl, Below.refl _ _⟩
  go_wp2_with fail
  all_goals try (go_ret; exact ⟨rfl, Below.refl _ _⟩)
  refine (irType_any _ _ _ _ _ _ _ _).mono ?_
  rintro e w1 ⟨p1, rfl, ht1, hb1⟩
  have T1 : Hid (TypeAt w1 p1 k ri) := ht1
  clear ht1
  go_wp2_with fail
  refine (required_any _ _ _ _ T1.out).mono ?_
  rintro e w1 ⟨rfl, rfl⟩
  go_wp2_with fail
  refine (irType_any _ _ _ _ _ _ _ _).mono ?_
  rintro e w2 ⟨p2, rfl, ht2, hb2⟩
  have T2 : Hid (TypeAt w2 p2 k true) := ht2
  clear ht2
  go_wp2_with fail
  refine (required_any _ _ _ _ T2.out).mono ?_
  rintro e w2 ⟨rfl, rfl⟩
  go_wp2_with fail
  refine (irType_any _ _ _ _ _ _ _ _).mono ?_
  rintro e w3 ⟨p3, rfl, ht3, hb3⟩
  have T3 : Hid (TypeAt w3 p3 k false) := ht3
  clear ht3
  go_wp2_with fail
  refine (required_any _ _ _ _ T3.out).mono ?_
  rintro e w3 ⟨rfl, rfl⟩
  have hoff : req false k = false := rfl
  rw [hoff]
  have hB3 : Below w.heap.size w w3 := (hb1.trans (hb2.mono hb1.size)).trans (hb3.mono (Nat.le_trans hb1.size hb2.size))
  have R : Hid (req ri k = (ri && req true k)) := by cases ri <;> rfl
  rw [R.out]
  generalize req true k = on
  cases ri
  all_goals
    go_wp2_with fail
    refine (irType_any _ _ _ _ _ _ _ _).mono ?_
    rintro e w4 ⟨p4, rfl, ht4, hb4⟩
    have T4 : Hid (TypeAt w4 p4 13 true) := ht4
    clear ht4
    go_wp2_with fail
    refine (required_any _ _ _ _ T4.out).mono ?_
    rintro e w4 ⟨rfl, rfl⟩
    have h13 : req true 13 = true := rfl
    rw [h13]
    go_wp2_with fail
    refine (irType_any _ _ _ _ _ _ _ _).mono ?_
    rintro e w5 ⟨p5, rfl, ht5, hb5⟩
    have T5 : Hid (TypeAt w5 p5 8 true) := ht5
    clear ht5
    go_wp2_with fail
    refine (required_any _ _ _ _ T5.out).mono ?_
    rintro e w5 ⟨rfl, rfl⟩
    have h8 : req true 8 = true := rfl
    rw [h8]
    go_wp2
    go_ret
    exact ⟨rfl, (hB3.trans (hb4.mono hB3.size)).trans (hb5.mono (Nat.le_trans hB3.size hb4.size))⟩

/-- For how many of the kinds 0 .. k-1 the answer is yes. -/
def cnt (ri : Bool) : Nat → Int
  | 0 => 0
  | k + 1 => cnt ri k + if req ri k then 1 else 0

theorem cnt_bd (ri : Bool) : ∀ k : Nat, 0 ≤ cnt ri k ∧ cnt ri k ≤ k
  | 0 => ⟨Int.le_refl _, Int.le_refl _⟩
  | k + 1 => by
    have h := cnt_bd ri k
    simp only [cnt]
    split <;> omega

theorem cnt_all (ri : Bool) : cnt ri 21 = if ri then 2 else 0 := by cases ri <;> decide

set_option maxHeartbeats 1000000 in
theorem law6_any (a b : ByteArray) (ri : Bool) (w : World) :
    Calls Try.prog 6 #[.string a, .string b, .bool ri] w fun e w' => e = .returned (.bool true) ∧ Below w.heap.size w w' := by
  go_enter Try.func6, Try.ntmps6
  go_wp2_with fail
  refine (bytes22_any _ _ _ _).mono ?_
  rintro e w ⟨r, rfl, rfl⟩
  cases r
  · go_wp2
    go_ret
    exact ⟨rfl, Below.refl _ _⟩
  go_wp2_with fail
  all_goals try (go_ret; exact ⟨rfl, Below.refl _ _⟩)
  go_loopw [7, 9] (fun t i wr => ∃ k : Nat, k ≤ 21 ∧ i = .int .i64 k ∧ t = .int .i64 (cnt ri k) ∧ Below w.heap.size w wr) (fun _ i _ => 21 - (intOf i).toNat)
  case atStart => exact ⟨0, by omega, rfl, rfl, Below.refl _ _⟩
  case round =>
    obtain ⟨k, hk, rfl, rfl, hb⟩ := hrel
    have hc := cnt_bd ri k
    by_cases hlt : k ≤ 20
    · have hs : Hid (cnt ri (k + 1) = cnt ri k + if req ri k then 1 else 0) := rfl
      go_wp2_with fail
      refine (irType_any _ _ _ _ _ _ _ _).mono ?_
      rintro e w1 ⟨p1, rfl, ht1, hb1⟩
      have T1 : Hid (TypeAt w1 p1 k ri) := ht1
      clear ht1
      go_wp2_with fail
      refine (required_any _ _ _ _ T1.out).mono ?_
      rintro e w1 ⟨rfl, rfl⟩
      have hb2 : Below w.heap.size w w1 := hb.trans (hb1.mono hb.size)
      generalize req ri k = rq at *
      cases rq
      · go_wp2
        go_roundw
        case rel => exact ⟨k + 1, by omega, by go_num, by rw [hs.out]; simp, hb2⟩
        case measure => simp [intOf]; omega
      · go_wp2
        go_roundw
        case rel => exact ⟨k + 1, by omega, by go_num, by rw [hs.out]; simp, hb2⟩
        case measure => simp [intOf]; omega
    · obtain rfl : k = 21 := by omega
      clear hc
      rw [cnt_all]
      cases ri
      · go_wp2
        go_ret
        exact ⟨rfl, hb⟩
      · go_wp2
        go_ret
        exact ⟨rfl, hb⟩

end Go.Proofs.Qxb6616680a
