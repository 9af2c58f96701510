/-
  DERIVED. THE WALKS of the second law: ZZnestedShapeErrorText, the law. For every F.
-/
import Derived.Test.Qxb6616479aFmtShape
namespace Go.Proofs.Qxb6616479aFmt
open Go.RowKit Go.Extern.Stop Go.Stop Go.Extern
attribute [local go_sem] call11 guardS fmt0 fmt0r op9_115 op9_113 method33 method26

/-- The text that fmt gives for a ShapeError with a Taken. -/
def said (F : Interp) (shape taken : ByteArray) : ByteArray := FmtStop.textOf (F "fmt.Sprintf" (reading shape.data.toList taken.data.toList) 0)

set_option maxHeartbeats 400000 in
theorem nest_pp (oS iS fault : ByteArray) (w : World) :
    Calls Tryf.prog 8 #[.string oS, .string ⟨#[]⟩, .string iS, .string ⟨#[]⟩, .string fault] w fun e w' => e = .returned (.string fault) ∧ Below w.heap.size w w' := by
  go_enter Tryf.func8, Tryf.ntmps8
  go_wp2_with (go_at_call 9; refine (new_any _ _).mono ?_; rintro e w' ⟨rfl, rfl⟩)
  refine (error_nest _ (w.heap.size + 1) fault _ ?_ ?_ ?_).mono ?_
  · go_simp
  · go_simp
  · refine (error_plain _ w.heap.size fault _ ?_ ?_ ?_).mono ?_
    · go_simp
    · go_simp
    · go_simp
    · rintro e w' ⟨rfl, rfl⟩
      exact ⟨rfl, Below.refl _ _⟩
  rintro e w' ⟨rfl, hb⟩
  go_wp2
  go_ret
  exact ⟨rfl, ((((Below.refl _ _).alloc (Nat.le_refl _) _).alloc (by simp) _).alloc (by simp; omega) _).trans (hb.mono (by simp; omega))⟩

set_option maxHeartbeats 400000 in
theorem nest_pt (F : Interp) (oS iS iT fault : ByteArray) (w : World) (hF : F.answers w.tape) (hne : iT.toList.isEmpty = false) :
    Calls Tryf.prog 8 #[.string oS, .string ⟨#[]⟩, .string iS, .string iT, .string fault] w fun e w' => e = .returned (.string (said F iS iT)) ∧ Below w.heap.size w w' := by
  go_enter Tryf.func8, Tryf.ntmps8
  go_wp2_with (go_at_call 9; refine (new_any _ _).mono ?_; rintro e w' ⟨rfl, rfl⟩)
  refine (error_nest _ (w.heap.size + 1) (said F iS iT) _ ?_ ?_ ?_).mono ?_
  · go_simp
  · go_simp
  · refine (error_taken F _ iS iT _ ?_ hne ?_ ?_).mono ?_
    · exact hF
    · go_simp
    · go_simp
    · rintro e w' ⟨rfl, hb⟩
      exact ⟨rfl, hb⟩
  rintro e w' ⟨rfl, hb⟩
  go_wp2
  go_ret
  exact ⟨rfl, ((((Below.refl _ _).alloc (Nat.le_refl _) _).alloc (by simp) _).alloc (by simp; omega) _).trans (hb.mono (by simp; omega))⟩

set_option maxHeartbeats 400000 in
theorem nest_t (F : Interp) (oS oT iS iT fault : ByteArray) (w : World) (hF : F.answers w.tape) (hne : oT.toList.isEmpty = false) :
    Calls Tryf.prog 8 #[.string oS, .string oT, .string iS, .string iT, .string fault] w fun e w' => e = .returned (.string (said F oS oT)) ∧ Below w.heap.size w w' := by
  go_enter Tryf.func8, Tryf.ntmps8
  go_wp2_with (go_at_call 9; refine (new_any _ _).mono ?_; rintro e w' ⟨rfl, rfl⟩)
  refine (error_taken F _ oS oT _ ?_ hne ?_ ?_).mono ?_
  · exact hF
  · go_simp
  · go_simp
  rintro e w' ⟨rfl, hb⟩
  go_wp2
  go_ret
  exact ⟨rfl, ((((Below.refl _ _).alloc (Nat.le_refl _) _).alloc (by simp) _).alloc (by simp; omega) _).trans (hb.mono (by simp; omega))⟩

set_option maxHeartbeats 400000 in
theorem bytes7_any (a b c d f : ByteArray) (w : World) :
    Calls Tryf.prog 7 #[.string a, .string b, .string c, .string d, .string f] w fun e w' => ∃ r : Bool, e = .returned (.bool r) ∧ w' = w := by
  go_enter Tryf.func7, Tryf.ntmps7
  go_wp2
  all_goals (go_ret; exact ⟨_, rfl, rfl⟩)

set_option maxHeartbeats 400000 in
theorem law4_pp (oS iS fault : ByteArray) (w : World) :
    Calls Tryf.prog 4 #[.string oS, .string ⟨#[]⟩, .string iS, .string ⟨#[]⟩, .string fault] w fun e w' => e = .returned (.bool true) ∧ Below w.heap.size w w' := by
  go_enter Tryf.func4, Tryf.ntmps4
  go_wp2_with fail
  refine (bytes7_any _ _ _ _ _ _).mono ?_
  rintro e w' ⟨r, rfl, rfl⟩
  cases r
  · go_wp2
    go_ret
    exact ⟨rfl, Below.refl _ _⟩
  go_wp2_with fail
  all_goals try (go_ret; exact ⟨rfl, Below.refl _ _⟩)
  refine (nest_pp _ _ _ _).mono ?_
  rintro e w1 ⟨rfl, hb1⟩
  go_wp2_with fail
  refine (text_plain _ _ _).mono ?_
  rintro e w2 ⟨rfl, hb2⟩
  go_wp2
  go_ret
  exact ⟨rfl, hb1.trans (hb2.mono hb1.size)⟩

set_option maxHeartbeats 400000 in
theorem law4_pt (F : Interp) (oS iS iT fault : ByteArray) (w : World) (hF : F.answers w.tape) (hne : iT.toList.isEmpty = false) :
    Calls Tryf.prog 4 #[.string oS, .string ⟨#[]⟩, .string iS, .string iT, .string fault] w fun e w' => e = .returned (.bool true) ∧ Below w.heap.size w w' := by
  go_enter Tryf.func4, Tryf.ntmps4
  go_wp2_with fail
  refine (bytes7_any _ _ _ _ _ _).mono ?_
  rintro e w' ⟨r, rfl, rfl⟩
  cases r
  · go_wp2
    go_ret
    exact ⟨rfl, Below.refl _ _⟩
  go_wp2_with fail
  all_goals try (go_ret; exact ⟨rfl, Below.refl _ _⟩)
  refine (nest_pt F _ _ _ _ _ hF hne).mono ?_
  rintro e w1 ⟨rfl, hb1⟩
  have hF1 : F.answers w1.tape := by rw [hb1.tape]; exact hF
  go_wp2_with fail
  refine (text_taken F _ _ _ _ hF1 hne).mono ?_
  rintro e w2 ⟨rfl, hb2⟩
  unfold said
  go_wp2
  go_ret
  exact ⟨rfl, hb1.trans (hb2.mono hb1.size)⟩

set_option maxHeartbeats 400000 in
theorem law4_tp (F : Interp) (oS oT iS fault : ByteArray) (w : World) (hF : F.answers w.tape) (hne : oT.toList.isEmpty = false) :
    Calls Tryf.prog 4 #[.string oS, .string oT, .string iS, .string ⟨#[]⟩, .string fault] w fun e w' => e = .returned (.bool true) ∧ Below w.heap.size w w' := by
  go_enter Tryf.func4, Tryf.ntmps4
  go_wp2_with fail
  refine (bytes7_any _ _ _ _ _ _).mono ?_
  rintro e w' ⟨r, rfl, rfl⟩
  cases r
  · go_wp2
    go_ret
    exact ⟨rfl, Below.refl _ _⟩
  go_wp2_with fail
  all_goals try (go_ret; exact ⟨rfl, Below.refl _ _⟩)
  refine (nest_t F _ _ _ _ _ _ hF hne).mono ?_
  rintro e w1 ⟨rfl, hb1⟩
  have hF1 : F.answers w1.tape := by rw [hb1.tape]; exact hF
  go_wp2_with fail
  refine (text_plain _ _ _).mono ?_
  rintro e w2 ⟨rfl, hb2⟩
  have hF2 : F.answers w2.tape := by rw [hb2.tape]; exact hF1
  go_wp2_with fail
  refine (text_taken F _ _ _ _ hF2 hne).mono ?_
  rintro e w3 ⟨rfl, hb3⟩
  unfold said
  go_wp2
  go_ret
  exact ⟨rfl, (hb1.trans (hb2.mono hb1.size)).trans (hb3.mono (Nat.le_trans hb1.size hb2.size))⟩

set_option maxHeartbeats 400000 in
theorem law4_tt (F : Interp) (oS oT iS iT fault : ByteArray) (w : World) (hF : F.answers w.tape) (hne : oT.toList.isEmpty = false) (hni : iT.toList.isEmpty = false) :
    Calls Tryf.prog 4 #[.string oS, .string oT, .string iS, .string iT, .string fault] w fun e w' => e = .returned (.bool true) ∧ Below w.heap.size w w' := by
  go_enter Tryf.func4, Tryf.ntmps4
  go_wp2_with fail
  refine (bytes7_any _ _ _ _ _ _).mono ?_
  rintro e w' ⟨r, rfl, rfl⟩
  cases r
  · go_wp2
    go_ret
    exact ⟨rfl, Below.refl _ _⟩
  go_wp2_with fail
  all_goals try (go_ret; exact ⟨rfl, Below.refl _ _⟩)
  refine (nest_t F _ _ _ _ _ _ hF hne).mono ?_
  rintro e w1 ⟨rfl, hb1⟩
  have hF1 : F.answers w1.tape := by rw [hb1.tape]; exact hF
  go_wp2_with fail
  refine (text_taken F _ _ _ _ hF1 hni).mono ?_
  rintro e w2 ⟨rfl, hb2⟩
  have hF2 : F.answers w2.tape := by rw [hb2.tape]; exact hF1
  go_wp2_with fail
  refine (text_taken F _ _ _ _ hF2 hne).mono ?_
  rintro e w3 ⟨rfl, hb3⟩
  unfold said
  go_wp2
  go_ret
  exact ⟨rfl, (hb1.trans (hb2.mono hb1.size)).trans (hb3.mono (Nat.le_trans hb1.size hb2.size))⟩

end Go.Proofs.Qxb6616479aFmt
