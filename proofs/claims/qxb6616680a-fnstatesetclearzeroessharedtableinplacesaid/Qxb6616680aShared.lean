/-
  DERIVED. THE WALK of the law FnStateSetClearZeroesSharedTableInPlace.
-/
import Derived.Test.Qxb6616680aSets
namespace Go.Proofs.Qxb6616680a
open Go.RowKit Go.Deep

set_option maxHeartbeats 2000000 in
theorem law4_any (a0 a1 a3 : Option Addr) (n c0 m1 c1 m2 c3 : Nat) (z0 z1 z2 : Nat → Int) (x1 x2 : Int) (w : World) (i0 : a0 = none → n = 0) (i1 : a1 = none → m1 = 0) (i3 : a3 = none → m2 = 0)
    (s0 : Src w a0 n (fun i => .int .i32 (z0 i))) (s1 : Src w a1 m1 (fun i => .int .i64 (z1 i))) (s3 : Src w a3 m2 (fun i => .int .i64 (z2 i))) :
    Calls Try.prog 4 #[.slice a0 n c0, .slice a1 m1 c1, .int .i64 x1, .slice a3 m2 c3, .int .i64 x2] w fun e w' => e = .returned (.bool true) ∧ Below w.heap.size w w' := by
  have I0 : Hid (a0 = none → n = 0) := i0
  have I1 : Hid (a1 = none → m1 = 0) := i1
  have I3 : Hid (a3 = none → m2 = 0) := i3
  clear i0 i1 i3
  go_enter Try.func4, Try.ntmps4
  go_wp2_with fail
  refine (bytes17_any _ _ _ _ _ _ _ _ _ _ _ _).mono ?_
  rintro e w ⟨r, rfl, rfl⟩
  cases r
  · go_wp2
    go_ret
    exact ⟨rfl, Below.refl _ _⟩
  go_wp2_with fail
  all_goals try (go_ret; exact ⟨rfl, Below.refl _ _⟩)
  have hn : n ≤ 65536 := by omega
  have hm1 : m1 ≤ 65536 := by omega
  have hm2 : m2 ≤ 65536 := by omega
  refine (clone8_any a0 n c0 z0 _ hn I0.out s0).mono ?_
  rintro e w1 ⟨A, C, rfl, slA1, newA, hB1⟩
  go_wp2_with fail
  refine (clone9_any a1 m1 c1 z1 _ hm1 I1.out (s1.below hB1)).mono ?_
  rintro e w2 ⟨A1, C1, rfl, slK2, newK, hb2⟩
  have hB2 : Below w.heap.size w w2 := hB1.trans (hb2.mono hB1.size)
  have slA2 := slA1.keep (keeps_of_below hb2) (fun _ _ h => h)
  go_wp2_with fail
  refine (clone9_any a3 m2 c3 z2 _ hm2 I3.out (s3.below hB2)).mono ?_
  rintro e w3 ⟨A2, C2, rfl, slL3, newL, hb3⟩
  have hB3 : Below w.heap.size w w3 := hB2.trans (hb3.mono hB2.size)
  have slA3 := slA2.keep (keeps_of_below hb3) (fun _ _ h => h)
  have slK3 := slK2.keep (keeps_of_below hb3) (fun _ _ h => h)
  -- which slices are nil; where the rows lie
  have nilK : Hid (A1 = none → m1 = 0 ∧ C1 = 0) := fun e => by
    rcases slK2 with ⟨_, h1, h2⟩ | ⟨g, h1, _⟩
    · exact ⟨h1, h2⟩
    · rw [e] at h1; cases h1
  have nilL : Hid (A2 = none → m2 = 0 ∧ C2 = 0) := fun e => by
    rcases slL3 with ⟨_, h1, h2⟩ | ⟨g, h1, _⟩
    · exact ⟨h1, h2⟩
    · rw [e] at h1; cases h1
  have zK : Hid (A1 = none → m1 = 0) := fun e => (nilK.out e).1
  have zL : Hid (A2 = none → m2 = 0) := fun e => (nilL.out e).1
  have ltA : Hid (∀ g, A = some ⟨g, 0, none⟩ → w.heap.size ≤ g ∧ g < w1.heap.size) := fun g e => ⟨newA g e, slA1.lt g e⟩
  have geK : Hid (∀ g, A1 = some ⟨g, 0, none⟩ → w1.heap.size ≤ g) := newK
  have geL : Hid (∀ g, A2 = some ⟨g, 0, none⟩ → w2.heap.size ≤ g) := newL
  have l12 : w1.heap.size ≤ w2.heap.size := hb2.size
  have l23 : w2.heap.size ≤ w3.heap.size := hb3.size
  have l01 : w.heap.size ≤ w1.heap.size := hB1.size
  clear slA1 slA2 slK2 newA newK newL s0 s1 s3 I0 I1 I3 hb2 hb3 hB1 hB2
  go_wp2_with fail
  refine (clone9_any A1 m1 C1 z1 _ hm1 zK.out slK3.src).mono ?_
  rintro e w4 ⟨A3, C3, rfl, slP4, newP, hb4⟩
  have hB4 : Below w.heap.size w w4 := hB3.trans (hb4.mono hB3.size)
  have slA4 := slA3.keep (keeps_of_below hb4) (fun _ _ h => h)
  have slK4 := slK3.keep (keeps_of_below hb4) (fun _ _ h => h)
  have slL4 := slL3.keep (keeps_of_below hb4) (fun _ _ h => h)
  have geP : Hid (∀ g, A3 = some ⟨g, 0, none⟩ → w3.heap.size ≤ g) := newP
  have l34 : w3.heap.size ≤ w4.heap.size := hb4.size
  clear slA3 slK3 slL3 hb4 hB3 newP
  go_wp2_with fail
  refine (clone9_any A2 m2 C2 z2 _ hm2 zL.out slL4.src).mono ?_
  rintro e w5 ⟨A4, C4, rfl, slR5, newR, hb5⟩
  have hB5 : Below w.heap.size w w5 := hB4.trans (hb5.mono hB4.size)
  have slA5 := slA4.keep (keeps_of_below hb5) (fun _ _ h => h)
  have slK5 := slK4.keep (keeps_of_below hb5) (fun _ _ h => h)
  have slL5 := slL4.keep (keeps_of_below hb5) (fun _ _ h => h)
  have slP5 := slP4.keep (keeps_of_below hb5) (fun _ _ h => h)
  have geR : Hid (∀ g, A4 = some ⟨g, 0, none⟩ → w4.heap.size ≤ g ∧ g < w5.heap.size) := fun g e => ⟨newR g e, slR5.lt g e⟩
  have ltK : Hid (∀ g, A1 = some ⟨g, 0, none⟩ → w1.heap.size ≤ g ∧ g < w5.heap.size) := fun g e => ⟨geK.out g e, slK5.lt g e⟩
  have ltL : Hid (∀ g, A2 = some ⟨g, 0, none⟩ → w1.heap.size ≤ g ∧ g < w5.heap.size) := fun g e => ⟨Nat.le_trans l12 (geL.out g e), slL5.lt g e⟩
  have ltP : Hid (∀ g, A3 = some ⟨g, 0, none⟩ → w1.heap.size ≤ g ∧ g < w5.heap.size) := fun g e => ⟨Nat.le_trans (Nat.le_trans l12 l23) (geP.out g e), slP5.lt g e⟩
  have ltR : Hid (∀ g, A4 = some ⟨g, 0, none⟩ → w1.heap.size ≤ g ∧ g < w5.heap.size) := fun g e => ⟨Nat.le_trans (Nat.le_trans l12 (Nat.le_trans l23 l34)) (geR.out g e).1, (geR.out g e).2⟩
  have l45 : w4.heap.size ≤ w5.heap.size := hb5.size
  clear slA4 slK4 slL4 slP4 hb5 hB4 newR geK geL geP geR
  go_wp2_with fail
  refine (newSet _ _ _ _ _ _ _ _).mono ?_
  rintro e w6 ⟨rfl, hw6⟩
  have setS6 : SetAt w6 w5.heap.size (.slice A n C) (.slice A1 m1 C1) x1 := by rw [hw6]; exact setAt_new _ _ _ _
  have hb6 : Below w5.heap.size w5 w6 := by rw [hw6]; exact (Below.refl _ _).alloc (Nat.le_refl _) _
  have hB6 : Below w.heap.size w w6 := hB5.trans (hb6.mono hB5.size)
  have kp6 := keeps_of_below hb6
  have slA6 := slA5.keep kp6 (fun _ _ h => h)
  have slK6 := slK5.keep kp6 (fun _ _ h => h)
  have slL6 := slL5.keep kp6 (fun _ _ h => h)
  have slP6 := slP5.keep kp6 (fun _ _ h => h)
  have slR6 := slR5.keep kp6 (fun _ _ h => h)
  have l56 : w5.heap.size < w6.heap.size := setS6.lt
  clear slA5 slK5 slL5 slP5 slR5 kp6 hb6 hw6 hB5
  go_wp2_with fail
  refine (newSet _ _ _ _ _ _ _ _).mono ?_
  rintro e w7 ⟨rfl, hw7⟩
  have setT7 : SetAt w7 w6.heap.size (.slice A n C) (.slice A2 m2 C2) x2 := by rw [hw7]; exact setAt_new _ _ _ _
  have hb7 : Below w6.heap.size w6 w7 := by rw [hw7]; exact (Below.refl _ _).alloc (Nat.le_refl _) _
  have hB7 : Below w.heap.size w w7 := hB6.trans (hb7.mono hB6.size)
  have kp7 := keeps_of_below hb7
  have setS7 := setS6.keep kp7 (fun h => h)
  have slA7 := slA6.keep kp7 (fun _ _ h => h)
  have slK7 := slK6.keep kp7 (fun _ _ h => h)
  have slL7 := slL6.keep kp7 (fun _ _ h => h)
  have slP7 := slP6.keep kp7 (fun _ _ h => h)
  have slR7 := slR6.keep kp7 (fun _ _ h => h)
  clear slA6 slK6 slL6 slP6 slR6 setS6 kp7 hb7 hw7 hB6
  go_wp2_with fail
  -- clearing the first
  refine (zzclear_any w5.heap.size A A1 n C m1 C1 x1 _ _ setS7 slA7 (fun g e => by have := ltA.out g e; omega) nilK.out).mono ?_
  rintro e w8 ⟨rfl, setS8, slA8, kp8⟩
  have hB8 : Below w.heap.size w w8 := below_keeps hB7 kp8 (fun k hk => by rcases hk with rfl | e; omega; exact (ltA.out k e).1)
  have setT8 := setT7.keep kp8 (fun h => by rcases h with h | e; omega; have := (ltA.out _ e).2; omega)
  have far : ∀ (B : Option Addr), (∀ g, B = some ⟨g, 0, none⟩ → w1.heap.size ≤ g ∧ g < w5.heap.size) → ∀ g, B = some ⟨g, 0, none⟩ → ¬ (g = w5.heap.size ∨ A = some ⟨g, 0, none⟩) := by
    intro B hB g e h
    have h1 := hB g e
    rcases h with h | e'
    · omega
    · have := (ltA.out g e').2
      omega
  have slK8 := slK7.keep kp8 (far A1 ltK.out)
  have slL8 := slL7.keep kp8 (far A2 ltL.out)
  have slP8 := slP7.keep kp8 (far A3 ltP.out)
  have slR8 := slR7.keep kp8 (far A4 ltR.out)
  clear far slA7 slK7 slL7 slP7 slR7 setS7 setT7 kp8 hB7 setS8
  go_wp2_with fail
  refine (setSlots _ _ _ _ _ setT8).mono ?_
  rintro e w8 ⟨rfl, rfl⟩
  go_wp2_with fail
  refine (zero13_any _ _ _ _ hn slA8).mono ?_
  rintro e w8 ⟨rfl, rfl⟩
  go_wp2_with fail
  refine (zero13_any _ _ _ _ hn slA8).mono ?_
  rintro e w8 ⟨rfl, rfl⟩
  go_wp2_with fail
  refine (setKeys _ _ _ _ _ setT8).mono ?_
  rintro e w8 ⟨rfl, rfl⟩
  go_wp2_with fail
  refine (equal18_any _ _ _ _ _ z2 _ hm2 slL8 slR8).mono ?_
  rintro e w9 ⟨rfl, hb9⟩
  have hB9 : Below w.heap.size w w9 := hB8.trans (hb9.mono hB8.size)
  have kp9 := keeps_of_below hb9
  have setT9 := setT8.keep kp9 (fun h => h)
  have slA9 := slA8.keep kp9 (fun _ _ h => h)
  have slK9 := slK8.keep kp9 (fun _ _ h => h)
  have slP9 := slP8.keep kp9 (fun _ _ h => h)
  clear slA8 slK8 slL8 slP8 slR8 setT8 kp9 hb9 hB8
  go_wp2_with fail
  refine (setN _ _ _ _ _ setT9).mono ?_
  rintro e w9 ⟨rfl, rfl⟩
  go_wp2_with fail
  refine (equal18_any _ _ _ _ _ z1 _ hm1 slK9 slP9).mono ?_
  rintro e w10 ⟨rfl, hb10⟩
  have hB10 : Below w.heap.size w w10 := hB9.trans (hb10.mono hB9.size)
  have kp10 := keeps_of_below hb10
  have setT10 := setT9.keep kp10 (fun h => h)
  have slA10 := slA9.keep kp10 (fun _ _ h => h)
  clear slA9 slK9 slP9 setT9 kp10 hb10 hB9
  go_wp2_with fail
  -- clearing the second
  refine (zzclear_any w6.heap.size A A2 n C m2 C2 x2 _ _ setT10 slA10 (fun g e => by have := ltA.out g e; omega) nilL.out).mono ?_
  rintro e w11 ⟨rfl, setT11, slA11, kp11⟩
  have hB11 : Below w.heap.size w w11 := below_keeps hB10 kp11 (fun k hk => by rcases hk with rfl | e; omega; exact (ltA.out k e).1)
  clear setT10 slA10 kp11 hB10
  go_wp2_with fail
  refine (setKeys _ _ _ _ _ setT11).mono ?_
  rintro e w11 ⟨rfl, rfl⟩
  go_wp2_with fail
  refine (setN _ _ _ _ _ setT11).mono ?_
  rintro e w11 ⟨rfl, rfl⟩
  go_wp2_with fail
  refine (setSlots _ _ _ _ _ setT11).mono ?_
  rintro e w11 ⟨rfl, rfl⟩
  go_wp2_with fail
  refine (zero13_any _ _ _ _ hn slA11).mono ?_
  rintro e w11 ⟨rfl, rfl⟩
  go_wp2
  go_ret
  exact ⟨rfl, hB11⟩

end Go.Proofs.Qxb6616680a
