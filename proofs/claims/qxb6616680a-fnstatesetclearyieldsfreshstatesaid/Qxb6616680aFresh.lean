/-
  DERIVED. THE WALK of the law FnStateSetClearYieldsFreshState.
-/
import Derived.Test.Qxb6616680aSets
namespace Go.Proofs.Qxb6616680a
open Go.RowKit Go.Deep

set_option maxHeartbeats 2000000 in
theorem law3_any (a0 a1 : Option Addr) (n c0 m c1 : Nat) (z0 z1 : Nat → Int) (x : Int) (w : World) (i0 : a0 = none → n = 0) (i1 : a1 = none → m = 0)
    (s0 : Src w a0 n (fun i => .int .i32 (z0 i))) (s1 : Src w a1 m (fun i => .int .i64 (z1 i))) :
    Calls Try.prog 3 #[.slice a0 n c0, .slice a1 m c1, .int .i64 x] w fun e w' => e = .returned (.bool true) ∧ Below w.heap.size w w' := by
  have I0 : Hid (a0 = none → n = 0) := i0
  have I1 : Hid (a1 = none → m = 0) := i1
  clear i0 i1
  go_enter Try.func3, Try.ntmps3
  go_wp2_with fail
  refine (bytes7_any _ _ _ _ _ _ _ _).mono ?_
  rintro e w ⟨r, rfl, rfl⟩
  cases r
  · go_wp2
    go_ret
    exact ⟨rfl, Below.refl _ _⟩
  go_wp2_with fail
  all_goals try (go_ret; exact ⟨rfl, Below.refl _ _⟩)
  have hn : n ≤ 65536 := by omega
  have hm : m ≤ 65536 := by omega
  refine (clone8_any a0 n c0 z0 _ hn I0.out s0).mono ?_
  rintro e w1 ⟨A, C, rfl, slA1, newA, hb1⟩
  go_wp2_with fail
  refine (clone9_any a1 m c1 z1 _ hm I1.out (s1.below hb1)).mono ?_
  rintro e w2 ⟨A2, C2, rfl, slK2, newK, hb2⟩
  have hB2 : Below w.heap.size w w2 := hb1.trans (hb2.mono hb1.size)
  have slA2 := slA1.keep (keeps_of_below hb2) (fun _ _ h => h)
  have k2 : Hid (A2 = none → m = 0 ∧ C2 = 0) := fun e => by
    rcases slK2 with ⟨_, h1, h2⟩ | ⟨g, h1, _⟩
    · exact ⟨h1, h2⟩
    · rw [e] at h1; cases h1
  have ltA : Hid (∀ g, A = some ⟨g, 0, none⟩ → w.heap.size ≤ g ∧ g < w2.heap.size) := fun g e => ⟨Nat.le_trans (Nat.le_refl _) (newA g e), slA2.lt g e⟩
  clear slA1 slK2 newA newK s0 s1 I0 I1
  go_wp2_with fail
  refine (newSet _ _ _ _ _ _ _ _).mono ?_
  rintro e w3 ⟨rfl, hw3⟩
  have setA3 : SetAt w3 w2.heap.size (.slice A n C) (.slice A2 m C2) x := by rw [hw3]; exact setAt_new _ _ _ _
  have hb3 : Below w2.heap.size w2 w3 := by rw [hw3]; exact (Below.refl _ _).alloc (Nat.le_refl _) _
  have hB3 : Below w.heap.size w w3 := hB2.trans (hb3.mono hB2.size)
  have slA3 := slA2.keep (keeps_of_below hb3) (fun _ _ h => h)
  have hPG : w2.heap.size < w3.heap.size := setA3.lt
  have hmk := make22 n hn
  clear hw3 slA2 hb1 hb2
  go_wp2_with fail
  refine (newSet _ _ _ _ _ _ _ _).mono ?_
  rintro e w5 ⟨rfl, hw5⟩
  have hb4 : Below w3.heap.size w3 (w3.alloc (.cells (madeCells #[.int .i32 0] n) 21)) := (Below.refl _ _).alloc (Nat.le_refl _) _
  have hb5 : Below w3.heap.size w3 w5 := by rw [hw5]; exact hb4.alloc hb4.size _
  have setF5 : SetAt w5 (w3.heap.size + 1) (.slice (some ⟨w3.heap.size, 0, none⟩) n n) (.slice none 0 0) 0 := by
    rw [hw5]
    have h := setAt_new (w3.alloc (.cells (madeCells #[.int .i32 0] n) 21)) (.slice (some ⟨w3.heap.size, 0, none⟩) n n) (.slice none 0 0) 0
    rw [nblk_alloc] at h
    exact h
  have slF5 : Sl w5 21 (some ⟨w3.heap.size, 0, none⟩) n n (fun _ => .int .i32 0) := by
    rw [hw5]
    exact .inr ⟨_, rfl, rfl, (World.rowIs_made w3 (.int .i32 0) n 21).alloc _⟩
  have hB5 : Below w.heap.size w w5 := hB3.trans (hb5.mono hB3.size)
  have setA5 := setA3.keep (keeps_of_below hb5) (fun h => h)
  have slA5 := slA3.keep (keeps_of_below hb5) (fun _ _ h => h)
  have hwP : w.heap.size ≤ w2.heap.size := hB2.size
  clear hw5 hmk hb4 setA3 slA3 hb3
  go_wp2_with fail
  refine (zzclear_any w2.heap.size A A2 n C m C2 x _ _ setA5 slA5 (fun g e => by have := ltA.out g e; omega) k2.out).mono ?_
  rintro e w6 ⟨rfl, setA6, slA6, kp6⟩
  have hB6 : Below w.heap.size w w6 := below_keeps hB5 kp6 (fun k hk => by rcases hk with rfl | e; exact hwP; exact (ltA.out k e).1)
  have setF6 := setF5.keep kp6 (fun h => by rcases h with h | e; omega; have := (ltA.out _ e).2; omega)
  have slF6 := slF5.keep kp6 (fun g e h => by simp at e; rcases h with h | e'; omega; have := (ltA.out _ e').2; omega)
  clear setA5 slA5 setF5 slF5 kp6 hB5
  go_wp2_with fail
  refine (zzclear_any (w3.heap.size + 1) _ none n n 0 0 0 _ _ setF6 slF6 (fun g e => by simp at e; try omega) (fun _ => ⟨rfl, rfl⟩)).mono ?_
  rintro e w7 ⟨rfl, setF7, slF7, kp7⟩
  have hB7 : Below w.heap.size w w7 := below_keeps hB6 kp7 (fun k hk => by rcases hk with rfl | e; omega; simp at e; try omega)
  have setA7 := setA6.keep kp7 (fun h => by rcases h with h | e; omega; simp at e; try omega)
  have slA7 := slA6.keep kp7 (fun g e h => by have := ltA.out g e; rcases h with h | e'; omega; simp at e'; try omega)
  clear setA6 slA6 setF6 slF6 kp7 hB6
  go_wp2_with fail
  refine (setSlots _ _ _ _ _ setF7).mono ?_
  rintro e w7 ⟨rfl, rfl⟩
  go_wp2_with fail
  refine (zero13_any _ _ _ _ hn slF7).mono ?_
  rintro e w7 ⟨rfl, rfl⟩
  go_wp2_with fail
  refine (setKeys _ _ _ _ _ setF7).mono ?_
  rintro e w7 ⟨rfl, rfl⟩
  go_wp2_with fail
  refine (setN _ _ _ _ _ setF7).mono ?_
  rintro e w7 ⟨rfl, rfl⟩
  go_wp2_with fail
  refine (setSlots _ _ _ _ _ setA7).mono ?_
  rintro e w7 ⟨rfl, rfl⟩
  go_wp2_with fail
  refine (equal16_any _ _ _ _ _ (fun _ => 0) _ hn slA7 slF7).mono ?_
  rintro e w8 ⟨rfl, hb8⟩
  have kp8 := keeps_of_below hb8
  have hB8 : Below w.heap.size w w8 := hB7.trans (hb8.mono hB7.size)
  have setA8 := setA7.keep kp8 (fun h => h)
  have slA8 := slA7.keep kp8 (fun _ _ h => h)
  have slF8 := slF7.keep kp8 (fun _ _ h => h)
  clear setA7 slA7 setF7 slF7 kp8 hB7 hb8
  go_wp2_with fail
  refine (setKeys _ _ _ _ _ setA8).mono ?_
  rintro e w8 ⟨rfl, rfl⟩
  go_wp2_with fail
  refine (setN _ _ _ _ _ setA8).mono ?_
  rintro e w8 ⟨rfl, rfl⟩
  go_wp2_with fail
  refine (zzclear_any w2.heap.size A A2 n C 0 C2 0 _ _ setA8 slA8 (fun g e => by have := ltA.out g e; omega) (fun e => ⟨rfl, (k2.out e).2⟩)).mono ?_
  rintro e w9 ⟨rfl, setA9, slA9, kp9⟩
  have hB9 : Below w.heap.size w w9 := below_keeps hB8 kp9 (fun k hk => by rcases hk with rfl | e; exact hwP; exact (ltA.out k e).1)
  have slF9 := slF8.keep kp9 (fun g e h => by simp at e; rcases h with h | e'; omega; have := (ltA.out _ e').2; omega)
  clear setA8 slA8 slF8 kp9 hB8
  go_wp2_with fail
  refine (setSlots _ _ _ _ _ setA9).mono ?_
  rintro e w9 ⟨rfl, rfl⟩
  go_wp2_with fail
  refine (equal16_any _ _ _ _ _ (fun _ => 0) _ hn slA9 slF9).mono ?_
  rintro e w10 ⟨rfl, hb10⟩
  have hB10 : Below w.heap.size w w10 := hB9.trans (hb10.mono hB9.size)
  have setA10 := setA9.keep (keeps_of_below hb10) (fun h => h)
  clear setA9 slA9 slF9 hB9 hb10
  go_wp2_with fail
  refine (setKeys _ _ _ _ _ setA10).mono ?_
  rintro e w10 ⟨rfl, rfl⟩
  go_wp2_with fail
  refine (setN _ _ _ _ _ setA10).mono ?_
  rintro e w10 ⟨rfl, rfl⟩
  go_wp2
  go_ret
  exact ⟨rfl, hB10⟩

end Go.Proofs.Qxb6616680a
