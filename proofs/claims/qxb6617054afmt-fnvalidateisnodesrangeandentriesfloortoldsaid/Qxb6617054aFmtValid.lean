/-
  DERIVED. THE WALKS of this seat: CheckSize, Validate, the law. For every F: fmt's text is never looked into.
-/
import Derived.Test.Qxb6617054aFmtFacts
import Derived.WalkKit
import Derived.WalkSpells
import Derived.WalkLawsBesides
namespace Go.Proofs.Qxb6617054aFmt
open Go.RowKit Go.Extern.Stop Go.Stop Go.Extern
attribute [local go_sem] call7 guardS fmt0r fmt1r op3_100w ptr34 elem34

set_option maxHeartbeats 400000 in
theorem check_ok (n : Int) (w : World) (h : 2 ≤ n) (h' : n ≤ 64) :
    Calls Tryf.prog 5 #[.int .i64 n] w fun e w' => e = .returned .nilIface ∧ w' = w := by
  go_enter Tryf.func5, Tryf.ntmps5
  go_wp2
  go_ret
  exact ⟨rfl, rfl⟩

/-- An error value: nil, or one of errors.New's make at p. -/
def vOf (ok : Bool) (p : Nat) : Value := if ok then .nilIface else .iface 34 (.pointer (some ⟨p, 0, none⟩))

/-- A verdict comes back: nil exactly where ok; nothing that was there has turned. -/
def Verdict (ok : Bool) (w : World) (e : Ending) (w' : World) : Prop := ∃ p, e = .returned (vOf ok p) ∧ Below w.heap.size w w'

def okN (n : Int) : Bool := decide (2 ≤ n) && decide (n ≤ 64)
def okE (m : Int) : Bool := decide (1 ≤ m)

theorem vOf_true (p : Nat) : vOf true p = .nilIface := rfl
theorem vOf_false (p : Nat) : vOf false p = .iface 34 (.pointer (some ⟨p, 0, none⟩)) := rfl

set_option maxHeartbeats 400000 in
theorem check_bad (F : Interp) (n : Int) (w : World) (hF : F.answers w.tape) (h : n < 2 ∨ 64 < n) :
    Calls Tryf.prog 5 #[.int .i64 n] w fun e w' => Verdict false w e w' := by
  have hF' := answers_open hF
  rcases h with h | h
  · go_enter Tryf.func5, Tryf.ntmps5
    go_wp2
    go_ret
    exact ⟨_, rfl, (((Below.refl _ _).alloc (Nat.le_refl _) _).alloc (by simp) _).drew⟩
  · have h2 : 2 ≤ n := by omega
    go_enter Tryf.func5, Tryf.ntmps5
    go_wp2
    go_ret
    exact ⟨_, rfl, (((Below.refl _ _).alloc (Nat.le_refl _) _).alloc (by simp) _).drew⟩

theorem check_any (F : Interp) (n : Int) (w : World) (hF : F.answers w.tape) :
    Calls Tryf.prog 5 #[.int .i64 n] w fun e w' => Verdict (okN n) w e w' := by
  by_cases h : 2 ≤ n ∧ n ≤ 64
  · have ho : okN n = true := by simp [okN, h]
    rw [ho]
    exact (check_ok n w h.1 h.2).mono fun e w' ⟨he, hw⟩ => ⟨0, he, by rw [hw]; exact Below.refl _ _⟩
  · have ho : okN n = false := by simp [okN]; omega
    rw [ho]
    exact check_bad F n w hF (by omega)

set_option maxHeartbeats 400000 in
theorem validate_any (F : Interp) (s n m : Int) (w : World) (hF : F.answers w.tape) :
    Calls Tryf.prog 4 #[.agg #[.int .u64 s, .int .i64 n, .int .i64 m]] w fun e w' => Verdict (okN n && okE m) w e w' := by
  by_cases h : 2 ≤ n ∧ n ≤ 64
  · have ho : okN n = true := by simp [okN, h]
    rw [ho]
    obtain ⟨h1, h2⟩ := h
    by_cases hm : m < 1
    · have he : okE m = false := by simp [okE]; omega
      rw [he]
      have hF' := answers_open hF
      clear ho he
      go_enter Tryf.func4, Tryf.ntmps4
      go_wp2_with (go_at_call 5; refine (check_ok n _ h1 h2).mono ?_; rintro e w' ⟨rfl, rfl⟩)
      go_wp2
      go_ret
      exact ⟨_, rfl, ((((Below.refl _ _).alloc (Nat.le_refl _) _).alloc (by simp) _).alloc (by simp; omega) _).drew⟩
    · have he : okE m = true := by simp [okE]; omega
      rw [he]
      clear ho he
      go_enter Tryf.func4, Tryf.ntmps4
      go_wp2_with (go_at_call 5; refine (check_ok n _ h1 h2).mono ?_; rintro e w' ⟨rfl, rfl⟩)
      go_ret
      exact ⟨0, rfl, (Below.refl _ _).alloc (Nat.le_refl _) _⟩
  · have ho : okN n = false := by simp [okN]; omega
    rw [ho]
    clear ho
    go_enter Tryf.func4, Tryf.ntmps4
    go_wp2_with fail
    refine (check_bad F n _ ?_ (by omega)).mono ?_
    · exact hF
    rintro e w' ⟨p, rfl, hb⟩
    rw [vOf_false]
    go_wp2
    go_ret
    exact ⟨p, rfl, ((Below.refl _ _).alloc (Nat.le_refl _) _).trans (hb.mono (by simp))⟩

attribute [local go_sem] vOf_true vOf_false

set_option maxHeartbeats 2000000 in
theorem law3_any (F : Interp) (s1 s2 n m : Int) (w : World) (hF : F.answers w.tape) :
    Calls Tryf.prog 3 #[.int .u64 s1, .int .u64 s2, .int .i64 n, .int .i64 m] w fun e w' => e = .returned (.bool true) ∧ Below w.heap.size w w' := by
  obtain ⟨bN, HN⟩ : ∃ b, Hid (okN n = b) := ⟨_, rfl⟩
  obtain ⟨bE, HE⟩ : ∃ b, Hid (okE m = b) := ⟨_, rfl⟩
  have H2 : Hid (okN 2 = true) := (by decide : okN 2 = true)
  have H1 : Hid (okE 1 = true) := (by decide : okE 1 = true)
  have hn : (bN = false ∧ n < 2) ∨ (bN = false ∧ 2 ≤ n ∧ 64 < n) ∨ (bN = true ∧ 2 ≤ n ∧ n ≤ 64) := by
    rw [← HN.out]
    unfold okN
    by_cases h1 : 2 ≤ n <;> by_cases h2 : n ≤ 64 <;> simp [h1, h2] <;> omega
  have hm : (bE = false ∧ m < 1) ∨ (bE = true ∧ 1 ≤ m) := by
    rw [← HE.out]
    unfold okE
    by_cases h1 : 1 ≤ m <;> simp [h1]
    omega
  rcases hn with ⟨rfl, q1⟩ | ⟨rfl, q1, q2⟩ | ⟨rfl, q1, q2⟩ <;> rcases hm with ⟨rfl, q3⟩ | ⟨rfl, q3⟩
  all_goals
    go_enter Tryf.func3, Tryf.ntmps3
    go_wp2_with fail
    refine (validate_any F _ _ _ _ ?_).mono ?_
    · exact hF
    rintro e w1 ⟨p1, rfl, hb1⟩
    rw [HN.out, HE.out]
    have hB1 : Below w.heap.size w w1 := ((Below.refl _ _).alloc (Nat.le_refl _) _).trans (hb1.mono (by simp))
    have hF1 : F.answers w1.tape := by rw [hB1.tape]; exact hF
    clear hb1
    go_wp2_with fail
    refine (validate_any F _ _ _ _ ?_).mono ?_
    · exact hF1
    rintro e w2 ⟨p2, rfl, hb2⟩
    rw [HN.out, H1.out]
    have hB2 : Below w.heap.size w w2 := (hB1.alloc hB1.size _).trans (hb2.mono (by have := hB1.size; simp; omega))
    have hF2 : F.answers w2.tape := by rw [hB2.tape]; exact hF
    clear hb2
    go_wp2_with fail
    refine (validate_any F _ _ _ _ ?_).mono ?_
    · exact hF2
    rintro e w3 ⟨p3, rfl, hb3⟩
    rw [H2.out, HE.out]
    have hB3 : Below w.heap.size w w3 := (hB2.alloc hB2.size _).trans (hb3.mono (by have := hB2.size; simp; omega))
    have hF3 : F.answers w3.tape := by rw [hB3.tape]; exact hF
    clear hb3
    go_wp2_with fail
    refine (check_any F _ _ ?_).mono ?_
    · exact hF3
    rintro e w4 ⟨p4, rfl, hb4⟩
    rw [HN.out]
    have hB4 : Below w.heap.size w w4 := hB3.trans (hb4.mono hB3.size)
    clear hb4
    go_wp2
    go_ret
    exact ⟨rfl, hB4⟩

end Go.Proofs.Qxb6617054aFmt
