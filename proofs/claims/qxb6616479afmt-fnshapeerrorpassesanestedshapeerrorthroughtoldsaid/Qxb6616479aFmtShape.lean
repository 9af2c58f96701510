/-
  DERIVED. THE WALKS of this seat: errors.New, (*ShapeError).Error, ZZshapeErrorText, the first law. For every F.
-/
import Derived.Test.Qxb6616479aFmtFacts
import Derived.WalkKit
import Derived.WalkSpells
import Derived.WalkLawsBesides
import Derived.Deep.RegionHeld3
namespace Go.Proofs.Qxb6616479aFmt
open Go.RowKit Go.Extern.Stop Go.Stop Go.Extern
attribute [local go_sem] call11 guardS fmt0 fmt0r op9_115 op9_113

set_option maxHeartbeats 400000 in
theorem new_any (s : ByteArray) (w : World) :
    Calls Tryf.prog 9 #[.string s] w fun e w' => e = .returned (.iface 33 (.pointer (some ⟨w.heap.size, 0, none⟩))) ∧ w' = w.alloc (.cells #[.string s] 35) := by
  go_enter Tryf.func9, Tryf.ntmps9
  go_wp2
  go_ret
  exact ⟨rfl, rfl⟩

set_option maxHeartbeats 400000 in
theorem errString_any (b : Nat) (s : ByteArray) (w : World) (hc : w.cell? ⟨b, 0, none⟩ = some (.string s)) :
    Calls Tryf.prog 27 #[.pointer (some ⟨b, 0, none⟩)] w fun e w' => e = .returned (.string s) ∧ w' = w := by
  go_enter Tryf.func27, Tryf.ntmps27
  go_wp2
  go_ret
  exact ⟨rfl, rfl⟩


attribute [local go_sem] method33 method26

set_option maxHeartbeats 400000 in
theorem error_plain (b b2 : Nat) (s : ByteArray) (w : World)
    (h1 : w.cell? ⟨b, 1, none⟩ = some (.string ⟨#[]⟩)) (h2 : w.cell? ⟨b, 2, none⟩ = some (.iface 33 (.pointer (some ⟨b2, 0, none⟩))))
    (hc : w.cell? ⟨b2, 0, none⟩ = some (.string s)) :
    Calls Tryf.prog 10 #[.pointer (some ⟨b, 0, none⟩)] w fun e w' => e = .returned (.string s) ∧ w' = w := by
  go_enter Tryf.func10, Tryf.ntmps10
  go_wp2_with (go_at_call 27; refine (errString_any b2 s _ hc).mono ?_; rintro e w' ⟨rfl, rfl⟩)
  go_ret
  exact ⟨rfl, rfl⟩

set_option maxHeartbeats 1000000 in
theorem error_taken (F : Interp) (b : Nat) (shape taken : ByteArray) (w : World) (hF : F.answers w.tape) (hne : taken.toList.isEmpty = false)
    (h0 : w.cell? ⟨b, 0, none⟩ = some (.string shape)) (h1 : w.cell? ⟨b, 1, none⟩ = some (.string taken)) :
    Calls Tryf.prog 10 #[.pointer (some ⟨b, 0, none⟩)] w fun e w' => e = .returned (.string (FmtStop.textOf (F "fmt.Sprintf" (reading shape.data.toList taken.data.toList) 0))) ∧ Below w.heap.size w w' := by
  have hF' := answers_open hF
  go_enter Tryf.func10, Tryf.ntmps10
  go_wp2_with fail
  go_region_held3 (fun w' => w'.cell? ⟨b, 0, none⟩ = some (.string shape) ∧ w'.cell? ⟨b, 1, none⟩ = some (.string taken)) (go_keep) (fail)
  go_wp2
  go_ret
  exact ⟨rfl, (((Below.refl _ _).alloc (Nat.le_refl _) _).drew).drew⟩

set_option maxHeartbeats 400000 in
theorem error_nest (b b2 : Nat) (s : ByteArray) (w : World)
    (h1 : w.cell? ⟨b, 1, none⟩ = some (.string ⟨#[]⟩)) (h2 : w.cell? ⟨b, 2, none⟩ = some (.iface 26 (.pointer (some ⟨b2, 0, none⟩))))
    (H : Hid (Calls Tryf.prog 10 #[.pointer (some ⟨b2, 0, none⟩)] w fun e w' => e = .returned (.string s) ∧ Below w.heap.size w w')) :
    Calls Tryf.prog 10 #[.pointer (some ⟨b, 0, none⟩)] w fun e w' => e = .returned (.string s) ∧ Below w.heap.size w w' := by
  go_enter Tryf.func10, Tryf.ntmps10
  go_wp2_with (go_at_call 10; refine (H.out).mono ?_; rintro e w' ⟨rfl, hb⟩)
  go_ret
  exact ⟨rfl, hb⟩

set_option maxHeartbeats 400000 in
theorem text_plain (shape fault : ByteArray) (w : World) :
    Calls Tryf.prog 6 #[.string shape, .string ⟨#[]⟩, .string fault] w fun e w' => e = .returned (.string fault) ∧ Below w.heap.size w w' := by
  go_enter Tryf.func6, Tryf.ntmps6
  go_wp2_with (go_at_call 9; refine (new_any _ _).mono ?_; rintro e w' ⟨rfl, rfl⟩)
  refine (error_plain _ w.heap.size fault _ (by go_simp) (by go_simp) (by go_simp)).mono ?_
  rintro e w' ⟨rfl, rfl⟩
  go_wp2
  go_ret
  exact ⟨rfl, (((Below.refl _ _).alloc (Nat.le_refl _) _).alloc (by simp) _)⟩

set_option maxHeartbeats 400000 in
theorem text_taken (F : Interp) (shape taken fault : ByteArray) (w : World) (hF : F.answers w.tape) (hne : taken.toList.isEmpty = false) :
    Calls Tryf.prog 6 #[.string shape, .string taken, .string fault] w fun e w' => e = .returned (.string (FmtStop.textOf (F "fmt.Sprintf" (reading shape.data.toList taken.data.toList) 0))) ∧ Below w.heap.size w w' := by
  go_enter Tryf.func6, Tryf.ntmps6
  go_wp2_with (go_at_call 9; refine (new_any _ _).mono ?_; rintro e w' ⟨rfl, rfl⟩)
  refine (error_taken F _ shape taken _ ?_ hne ?_ ?_).mono ?_
  · exact hF
  · go_simp
  · go_simp
  rintro e w' ⟨rfl, hb⟩
  go_wp2
  go_ret
  exact ⟨rfl, (((Below.refl _ _).alloc (Nat.le_refl _) _).alloc (by simp) _).trans (hb.mono (by simp; omega))⟩

set_option maxHeartbeats 400000 in
theorem bytes5_any (a b c d : ByteArray) (w : World) :
    Calls Tryf.prog 5 #[.string a, .string b, .string c, .string d] w fun e w' => ∃ r : Bool, e = .returned (.bool r) ∧ w' = w := by
  go_enter Tryf.func5, Tryf.ntmps5
  go_wp2
  all_goals (go_ret; exact ⟨_, rfl, rfl⟩)

set_option maxHeartbeats 400000 in
theorem law3_plain (shape f1 f2 : ByteArray) (w : World) :
    Calls Tryf.prog 3 #[.string shape, .string ⟨#[]⟩, .string f1, .string f2] w fun e w' => e = .returned (.bool true) ∧ Below w.heap.size w w' := by
  go_enter Tryf.func3, Tryf.ntmps3
  go_wp2_with fail
  refine (bytes5_any _ _ _ _ _).mono ?_
  rintro e w' ⟨r, rfl, rfl⟩
  cases r
  · go_wp2
    go_ret
    exact ⟨rfl, Below.refl _ _⟩
  go_wp2_with fail
  all_goals try (go_ret; exact ⟨rfl, Below.refl _ _⟩)
  refine (text_plain _ _ _).mono ?_
  rintro e w1 ⟨rfl, hb1⟩
  go_wp2_with fail
  refine (text_plain _ _ _).mono ?_
  rintro e w2 ⟨rfl, hb2⟩
  go_wp2
  go_ret
  exact ⟨rfl, hb1.trans (hb2.mono hb1.size)⟩

set_option maxHeartbeats 400000 in
theorem law3_taken (F : Interp) (shape taken f1 f2 : ByteArray) (w : World) (hF : F.answers w.tape) (hne : taken.toList.isEmpty = false) :
    Calls Tryf.prog 3 #[.string shape, .string taken, .string f1, .string f2] w fun e w' => e = .returned (.bool true) ∧ Below w.heap.size w w' := by
  go_enter Tryf.func3, Tryf.ntmps3
  go_wp2_with fail
  refine (bytes5_any _ _ _ _ _).mono ?_
  rintro e w' ⟨r, rfl, rfl⟩
  cases r
  · go_wp2
    go_ret
    exact ⟨rfl, Below.refl _ _⟩
  go_wp2_with fail
  all_goals try (go_ret; exact ⟨rfl, Below.refl _ _⟩)
  refine (text_taken F _ _ _ _ hF hne).mono ?_
  rintro e w1 ⟨rfl, hb1⟩
  have hF1 : F.answers w1.tape := by rw [hb1.tape]; exact hF
  go_wp2_with fail
  refine (text_taken F _ _ _ _ hF1 hne).mono ?_
  rintro e w2 ⟨rfl, hb2⟩
  go_wp2
  go_ret
  exact ⟨rfl, hb1.trans (hb2.mono hb1.size)⟩
end Go.Proofs.Qxb6616479aFmt
