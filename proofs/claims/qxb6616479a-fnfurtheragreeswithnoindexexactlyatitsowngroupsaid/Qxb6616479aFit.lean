/-
  DERIVED. THE WALKS of this seat: the guards, the table's look, the index, (*podIndex).further, the law.
-/
import Derived.Test.Qxb6616479aRows
import Derived.WalkKit
import Derived.WalkSpells
import Derived.WalkLawsBesides
import Derived.Deep.OwnRows
import Derived.Deep.QuietTactic
import Derived.BigQuiet
import Derived.Laws.CopyOwn
namespace Go.Proofs.Qxb6616479a
open Go.RowKit Go.Deep

set_option maxHeartbeats 400000 in
theorem bytes4_any (a0 a1 : Option Addr) (l0 c0 l1 c1 : Nat) (x : Int) (w : World) :
    Calls Try.prog 4 #[.slice a0 l0 c0, .slice a1 l1 c1, .int .i64 x] w fun e w' => ∃ r : Bool, e = .returned (.bool r) ∧ w' = w := by
  go_enter Try.func4, Try.ntmps4
  go_wp2
  all_goals (go_ret; exact ⟨_, rfl, rfl⟩)

set_option maxHeartbeats 400000 in
theorem further_nil (x : Int) (w : World) :
    Calls Try.prog 8 #[.pointer none, .int .i64 x] w fun e w' => e = .returned (.tuple #[.int .i64 x, .int .i64 0, .bool true]) ∧ w' = w := by
  go_enter Try.func8, Try.ntmps8
  go_wp2
  go_ret3
  exact ⟨rfl, rfl⟩

set_option maxHeartbeats 400000 in
theorem further_neg (p g n k : Nat) (f a : Int) (w : World) (hk : k < n) (h1 : w.cell? ⟨p, 2, none⟩ = some (.slice (some ⟨g, 0, none⟩) n n))
    (h2 : w.cell? ⟨g, k * 3 + 1, none⟩ = some (.int .i64 f)) (h3 : w.cell? ⟨g, k * 3 + 2, none⟩ = some (.int .i64 a)) (hf : f < 0) :
    Calls Try.prog 8 #[.pointer (some ⟨p, 0, none⟩), .int .i64 k] w fun e w' => e = .returned (.tuple #[.int .i64 0, .int .i64 a, .bool false]) ∧ Below w.heap.size w w' := by
  have hki : (k : Int) < (n : Int) := by omega
  go_enter Try.func8, Try.ntmps8
  go_wp2
  go_quiet (fail)
  go_wp2
  go_ret3
  exact ⟨rfl, below_drewN (Below.refl _ _) _⟩

set_option maxHeartbeats 400000 in
theorem further_pos (p g n k : Nat) (f : Int) (w : World) (hk : k < n) (h1 : w.cell? ⟨p, 2, none⟩ = some (.slice (some ⟨g, 0, none⟩) n n))
    (h2 : w.cell? ⟨g, k * 3 + 1, none⟩ = some (.int .i64 f)) (hf : 0 ≤ f) :
    Calls Try.prog 8 #[.pointer (some ⟨p, 0, none⟩), .int .i64 k] w fun e w' => e = .returned (.tuple #[.int .i64 f, .int .i64 0, .bool true]) ∧ Below w.heap.size w w' := by
  have hki : (k : Int) < (n : Int) := by omega
  go_enter Try.func8, Try.ntmps8
  go_wp2
  go_ret3
  exact ⟨rfl, Below.refl _ _⟩

/-- What zzFurtherTableFits leaves: a bool; where it is true, the two lengths are one. (A definition of its own: the walk's simp leaves it standing.) -/
def FitsPost (l0 l1 : Nat) (w : World) (e : Ending) (w' : World) : Prop := ∃ r : Bool, e = .returned (.bool r) ∧ w' = w ∧ (r = true → l0 = l1)

set_option maxHeartbeats 400000 in
theorem fits_zero (a0 a1 : Option Addr) (c0 l1 c1 : Nat) (w : World) :
    Calls Try.prog 5 #[.slice a0 0 c0, .slice a1 l1 c1] w fun e w' => FitsPost 0 l1 w e w' := by
  go_enter Try.func5, Try.ntmps5
  go_wp2
  · go_ret
    exact ⟨false, rfl, rfl, by simp⟩
  · have h0 : ((0 : Int) != (l1 : Int)) = false := by assumption
    have h00 : Hid (0 = l1) := by (have h1 := h0; simp at h1; show 0 = l1; omega)
    go_loop [5] (fun i => i = .int .i64 0) (fun _ => 0)
    case atStart => rfl
    case round =>
      subst hrel
      go_wp2
      go_ret
      exact ⟨true, rfl, rfl, fun _ => h00.out⟩

set_option maxHeartbeats 400000 in
theorem fits_row (b o l0 c0 : Nat) (f : Nat → Int) (a1 : Option Addr) (l1 c1 : Nat) (w : World) (hl : l0 ≤ 65536) (hc : ∀ i, i < l0 → w.cell? ⟨b, o + i, none⟩ = some (.int .i64 (f i))) :
    Calls Try.prog 5 #[.slice (some ⟨b, o, none⟩) l0 c0, .slice a1 l1 c1] w fun e w' => FitsPost l0 l1 w e w' := by
  go_enter Try.func5, Try.ntmps5
  go_wp2
  · go_ret
    exact ⟨false, rfl, rfl, by simp⟩
  · have h0 : ((l0 : Int) != (l1 : Int)) = false := by assumption
    have h00 : Hid (l0 = l1) := by (have h1 := h0; simp at h1; show l0 = l1; omega)
    go_loop [5] (fun i => ∃ k : Nat, k ≤ l0 ∧ i = .int .i64 k) (fun i => l0 - (intOf i).toNat)
    case atStart => exact ⟨0, Nat.zero_le _, rfl⟩
    case round =>
      obtain ⟨k, hk, rfl⟩ := hrel
      by_cases hlt : k < l0
      · have hck := hc k hlt
        go_wp2
        · go_ret
          exact ⟨false, rfl, rfl, by simp⟩
        · go_round
          case rel => exact ⟨k + 1, by omega, by go_num⟩
          case measure => simp [intOf]; omega
      · go_wp2
        go_ret
        exact ⟨true, rfl, rfl, fun _ => h00.out⟩

theorem info3 : (Try.prog.info? 3).map (fun i => (i.zero, i.size, i.bytes)) = some (some (.int .i64 0), 1, 8) := by kernel_rfl
theorem info2 : (Try.prog.info? 2).map (fun i => (i.zero, i.size, i.bytes)) = some (some (.int .i64 0), 1, 8) := by kernel_rfl
theorem info34 : (Try.prog.info? 34).map (fun i => (i.zero, i.size, i.bytes)) = some (some (.agg #[.slice none 0 0, .int .i64 0, .int .i64 0]), 3, 40) := by kernel_rfl

theorem make31 (n : Nat) (hn : n ≤ 65536) (w : World) :
    (Instr.makeSlice 31 (.int .i64 (n : Int)) (.int .i64 (n : Int))).run Try.prog w = .ok (.slice (some ⟨w.heap.size, 0, none⟩) n n) (w.alloc (.cells (madeCells #[.slice none 0 0, .int .i64 0, .int .i64 0] (n * 3)) 34)) := by
  obtain ⟨i, hi, hzz⟩ := Option.map_eq_some_iff.1 info34
  simp only [Prod.mk.injEq] at hzz
  obtain ⟨hz, hs, hb⟩ := hzz
  have hr := run_make (P := Try.prog) w 31 34 i _ Try.underlying31 hi hz .i64 .i64 n n (by omega) (by omega) (by rw [hb]; omega) (by omega)
  rw [hs] at hr
  simpa [Value.cells] using hr

/-- The pointer p leads to an index of n workloads: f their groups, g their 'apart'. -/
def Indexed (w : World) (p n : Nat) (f g : Nat → Int) : Prop :=
  ∃ r, w.cell? ⟨p, 2, none⟩ = some (.slice (some ⟨r, 0, none⟩) n n) ∧ ∀ i, i < n → w.cell? ⟨r, i * 3 + 1, none⟩ = some (.int .i64 (f i)) ∧ w.cell? ⟨r, i * 3 + 2, none⟩ = some (.int .i64 (g i))

def IndexPost (w : World) (n : Nat) (f g : Nat → Int) (e : Ending) (w' : World) : Prop :=
  ∃ p, e = .returned (.pointer (some ⟨p, 0, none⟩)) ∧ Indexed w' p n f g ∧ Below w.heap.size w w'

/-- The loop's relation: the first k rows are written. -/
def Filled (w : World) (n : Nat) (f g : Nat → Int) (k : Nat) (wr : World) : Prop :=
  ∃ F, wr.rowIs w.heap.size 34 (n * 3) F ∧ (∀ j, j < k → F (j * 3 + 1) = .int .i64 (f j) ∧ F (j * 3 + 2) = .int .i64 (g j)) ∧ Below w.heap.size w wr

theorem filled_start (w : World) (n : Nat) (f g : Nat → Int) : Filled w n f g 0 (w.alloc (.cells (madeCells #[.slice none 0 0, .int .i64 0, .int .i64 0] (n * 3)) 34)) := by
  refine ⟨fun i => (#[Value.slice none 0 0, .int .i64 0, .int .i64 0])[i % 3]!, ?_, fun j hj => by omega, (Below.refl _ _).alloc (Nat.le_refl _) _⟩
  have h := World.rowIs_alloc w (madeCells #[.slice none 0 0, .int .i64 0, .int .i64 0] (n * 3)) 34 (fun i => (#[Value.slice none 0 0, .int .i64 0, .int .i64 0])[i % 3]!) (by
    intro i hi
    rw [size_madeCells] at hi
    simp [madeCells, hi])
  rwa [size_madeCells] at h

theorem filled_step {w : World} {n : Nat} {f g : Nat → Int} {k : Nat} {wr : World} (h : Filled w n f g k wr) :
    Filled w n f g (k + 1) ((wr.setCell ⟨w.heap.size, k * 3 + 1, none⟩ (.int .i64 (f k))).setCell ⟨w.heap.size, k * 3 + 2, none⟩ (.int .i64 (g k))) := by
  obtain ⟨F, hr, hF, hb⟩ := h
  refine ⟨_, (hr.set (k * 3 + 1) (.int .i64 (f k))).set (k * 3 + 2) (.int .i64 (g k)), ?_, (hb.setCell (Nat.le_refl _) _).setCell (Nat.le_refl _) _⟩
  intro j hj
  by_cases hjk : j = k
  · subst hjk
    simp
  · have hlt : j < k := by omega
    have e1 : ¬ j * 3 + 1 = k * 3 + 2 := by omega
    have e2 : ¬ j * 3 + 1 = k * 3 + 1 := by omega
    have e3 : ¬ j * 3 + 2 = k * 3 + 2 := by omega
    have e4 : ¬ j * 3 + 2 = k * 3 + 1 := by omega
    simp only [e1, e2, e3, e4, if_false]
    exact hF j hlt

theorem filled_cells {w : World} {n : Nat} {f g : Nat → Int} {k : Nat} {wr : World} (h : Filled w n f g k wr) (hk : k < n) (b : Nat) (hb : b < w.heap.size) (x : Value) (hx : w.cell? ⟨b, k, none⟩ = some x) :
    ∃ u1 u2, wr.cell? ⟨w.heap.size, k * 3 + 1, none⟩ = some u1 ∧ wr.frozen? ⟨w.heap.size, k * 3 + 1, none⟩ = false ∧
      (wr.setCell ⟨w.heap.size, k * 3 + 1, none⟩ (.int .i64 (f k))).cell? ⟨b, k, none⟩ = some x ∧
      (wr.setCell ⟨w.heap.size, k * 3 + 1, none⟩ (.int .i64 (f k))).cell? ⟨w.heap.size, k * 3 + 2, none⟩ = some u2 ∧
      (wr.setCell ⟨w.heap.size, k * 3 + 1, none⟩ (.int .i64 (f k))).frozen? ⟨w.heap.size, k * 3 + 2, none⟩ = false := by
  obtain ⟨F, hr, hF, hbl⟩ := h
  have hs := hr.set (k * 3 + 1) (.int .i64 (f k))
  have hbs : Below w.heap.size w (wr.setCell ⟨w.heap.size, k * 3 + 1, none⟩ (.int .i64 (f k))) := hbl.setCell (Nat.le_refl _) _
  exact ⟨_, _, hr.cell (i := k * 3 + 1) (by omega), hr.frozen _, (hbs.cell (p := ⟨b, k, none⟩) hb).trans hx, hs.cell (i := k * 3 + 2) (by omega), hs.frozen _⟩

theorem filled_end {w : World} {n : Nat} {f g : Nat → Int} {wr : World} (h : Filled w n f g n wr) (c : Array Value) (hc : c[2]? = some (.slice (some ⟨w.heap.size, 0, none⟩) n n)) :
    IndexPost w n f g (.returned (.pointer (some ⟨wr.heap.size, 0, none⟩))) (wr.alloc (.cells c 61)) := by
  obtain ⟨F, hr, hF, hb⟩ := h
  refine ⟨wr.heap.size, rfl, ⟨w.heap.size, ?_, ?_⟩, hb.alloc hb.size _⟩
  · have e := blk_alloc_new wr (.cells c 61)
    unfold World.cell?
    rw [e]
    exact hc
  · intro i hi
    have hra := hr.alloc (.cells c 61)
    rw [hra.cell (i := i * 3 + 1) (by omega), hra.cell (i := i * 3 + 2) (by omega), (hF i hi).1, (hF i hi).2]
    exact ⟨rfl, rfl⟩

set_option maxHeartbeats 400000 in
theorem newIndex (b0 b1 n : Nat) (f g : Nat → Int) (w : World) (hn : n ≤ 65536) (hb0 : b0 < w.heap.size) (hb1 : b1 < w.heap.size)
    (h0 : ∀ i, i < n → w.cell? ⟨b0, i, none⟩ = some (.int .i64 (f i))) (h1 : ∀ i, i < n → w.cell? ⟨b1, i, none⟩ = some (.int .i64 (g i))) :
    Calls Try.prog 7 #[.slice (some ⟨b0, 0, none⟩) n n, .slice (some ⟨b1, 0, none⟩) n n] w fun e w' => IndexPost w n f g e w' := by
  have hmk := make31 n hn
  go_enter Try.func7, Try.ntmps7
  go_wp2
  go_loopw [12] (fun i wr => ∃ k : Nat, k ≤ n ∧ i = .int .i64 k ∧ Filled w n f g k wr) (fun i _ => n - (intOf i).toNat)
  case atStart => exact ⟨0, Nat.zero_le _, rfl, filled_start w n f g⟩
  case round =>
    obtain ⟨k, hk, rfl, hfil⟩ := hrel
    by_cases hlt : k < n
    · have hlt' : (k : Int) < (n : Int) := by omega
      have hbw : Below w.heap.size w wr := by obtain ⟨_, _, _, h⟩ := hfil; exact h
      have hc0 : wr.cell? ⟨b0, k, none⟩ = some (.int .i64 (f k)) := (hbw.cell (p := ⟨b0, k, none⟩) hb0).trans (h0 k hlt)
      obtain ⟨u1, u2, q1, q2, q3, q4, q5⟩ := filled_cells hfil hlt b1 hb1 _ (h1 k hlt)
      clear h0 h1 hmk
      go_wp2
      go_roundw
      case rel => exact ⟨k + 1, by omega, by go_num, filled_step hfil⟩
      case measure => simp [intOf]; omega
    · have hkn : k = n := by omega
      subst hkn
      go_wp2
      go_ret
      exact filled_end hfil _ rfl


/-- 'zzc := make([]T, len(s)); copy(zzc, s)', T of one cell: the new row holds what s holds. -/
theorem copied (T E : TypeId) (hu : Try.prog.underlying T = some (.slice E)) (hs : (Try.prog.info? E).map (·.size) = some 1) (b o n c : Nat) (f : Nat → Int) (w : World)
    (hb : b < w.heap.size) (hc : ∀ i, i < n → w.cell? ⟨b, o + i, none⟩ = some (.int .i64 (f i))) :
    ∃ w2, (∀ ty, (Builtin.copy_ #[T, T] ty #[.slice (some ⟨w.heap.size, 0, none⟩) n n, .slice (some ⟨b, o, none⟩) n c]).run Try.prog (w.alloc (.cells (madeCells #[.int .i64 0] n) E)) = .ok (goInt n) w2) ∧
      w2.rowIs w.heap.size E n (fun i => .int .i64 (f i)) ∧ Below w.heap.size w w2 ∧ w2.heap.size = w.heap.size + 1 := by
  have hlen : ((List.range n).map fun i => Value.int .i64 (f i)).length = n := by simp
  have hal : (w.alloc (.cells (madeCells #[.int .i64 0] n) E)).heap[w.heap.size]? = some (.cells (madeCells #[.int .i64 0] n) E (0, 0)) := blk_alloc_new _ _
  have hba : Below w.heap.size w (w.alloc (.cells (madeCells #[.int .i64 0] n) E)) := (Below.refl _ _).alloc (Nat.le_refl _) _
  refine ⟨(w.alloc (.cells (madeCells #[.int .i64 0] n) E)).setRow w.heap.size ((List.range n).map fun i => Value.int .i64 (f i)).toArray, fun ty => ?_, ?_, ?_, ?_⟩
  · have hr := run_copy_row Try.prog (w.alloc (.cells (madeCells #[.int .i64 0] n) E)) T T ty E w.heap.size 0 n n ⟨b, o, none⟩ n c (madeCells #[.int .i64 0] n) E ((List.range n).map fun i => Value.int .i64 (f i)) hu hs hal (by simp)
      (by
        intro j v hj
        obtain ⟨hjl, hjv⟩ := List.getElem?_eq_some_iff.1 hj
        have hjn : j < n := by simpa using hjl
        simp at hjv
        subst hjv
        have e : (⟨b, o, none⟩ : Addr).add j = ⟨b, o + j, none⟩ := by unfold Addr.add; split <;> simp_all
        rw [e]
        exact (hba.cell (p := ⟨b, o + j, none⟩) hb).trans (hc j hjn))
      (by simp [size_madeCells]) (by intro v hv; simp at hv; obtain ⟨i, _, rfl⟩ := hv; rfl)
    have hd : List.drop n (madeCells #[Value.int .i64 0] n).toList = [] := List.drop_eq_nil_of_le (by simp [size_madeCells])
    rw [hr, hlen, List.take_zero, List.nil_append, Nat.zero_add, hd, List.append_nil]
  · refine ⟨_, setRow_heap _ _ _ _ _ _ hal, by simp, fun i hi => by simp [hi]⟩
  · exact below_setRow hba (Nat.le_refl _) _
  · rw [setRow_size, nblk_alloc]


theorem make22 (n : Nat) (hn : n ≤ 65536) (w : World) :
    (Instr.makeSlice 22 (.int .i64 (n : Int)) (.int .i64 (n : Int))).run Try.prog w = .ok (.slice (some ⟨w.heap.size, 0, none⟩) n n) (w.alloc (.cells (madeCells #[.int .i64 0] n) 3)) :=
  run_make_row' 22 3 (.int .i64 0) 8 Try.underlying22 info3 rfl .i64 .i64 n (by omega) (by omega) w
theorem make23 (n : Nat) (hn : n ≤ 65536) (w : World) :
    (Instr.makeSlice 23 (.int .i64 (n : Int)) (.int .i64 (n : Int))).run Try.prog w = .ok (.slice (some ⟨w.heap.size, 0, none⟩) n n) (w.alloc (.cells (madeCells #[.int .i64 0] n) 2)) :=
  run_make_row' 23 2 (.int .i64 0) 8 Try.underlying23 info2 rfl .i64 .i64 n (by omega) (by omega) w

set_option maxHeartbeats 400000 in
theorem zzfurther_nil (x : Int) (w : World) :
    Calls Try.prog 6 #[.pointer none, .int .i64 x] w fun e w' => e = .returned (.tuple #[.int .i64 x, .int .i64 0, .bool true]) ∧ w' = w := by
  go_enter Try.func6, Try.ntmps6
  go_wp2_with (go_at_call 8; refine (further_nil _ _).mono ?_; rintro e w' ⟨rfl, rfl⟩)
  go_ret3
  exact ⟨rfl, rfl⟩

set_option maxHeartbeats 400000 in
theorem zzfurther_neg (p g n k : Nat) (f a : Int) (w : World) (hk : k < n) (h1 : w.cell? ⟨p, 2, none⟩ = some (.slice (some ⟨g, 0, none⟩) n n))
    (h2 : w.cell? ⟨g, k * 3 + 1, none⟩ = some (.int .i64 f)) (h3 : w.cell? ⟨g, k * 3 + 2, none⟩ = some (.int .i64 a)) (hf : f < 0) :
    Calls Try.prog 6 #[.pointer (some ⟨p, 0, none⟩), .int .i64 k] w fun e w' => e = .returned (.tuple #[.int .i64 0, .int .i64 a, .bool false]) ∧ Below w.heap.size w w' := by
  go_enter Try.func6, Try.ntmps6
  go_wp2_with (go_at_call 8; refine (further_neg p g n k f a _ hk h1 h2 h3 hf).mono ?_; rintro e w' ⟨rfl, hb⟩)
  go_ret3
  exact ⟨rfl, hb⟩

set_option maxHeartbeats 400000 in
theorem zzfurther_pos (p g n k : Nat) (f : Int) (w : World) (hk : k < n) (h1 : w.cell? ⟨p, 2, none⟩ = some (.slice (some ⟨g, 0, none⟩) n n))
    (h2 : w.cell? ⟨g, k * 3 + 1, none⟩ = some (.int .i64 f)) (hf : 0 ≤ f) :
    Calls Try.prog 6 #[.pointer (some ⟨p, 0, none⟩), .int .i64 k] w fun e w' => e = .returned (.tuple #[.int .i64 f, .int .i64 0, .bool true]) ∧ Below w.heap.size w w' := by
  go_enter Try.func6, Try.ntmps6
  go_wp2_with (go_at_call 8; refine (further_pos p g n k f _ hk h1 h2 hf).mono ?_; rintro e w' ⟨rfl, hb⟩)
  go_ret3
  exact ⟨rfl, hb⟩

set_option maxHeartbeats 1000000 in
theorem law_early (a0 a1 : Option Addr) (l0 c0 l1 c1 : Nat) (x : Int) (w : World) (H : Hid (x < 0 ∨ (l0 : Int) ≤ x ∨ l0 ≠ l1 ∨ 65536 < l0))
    (HF : Hid (l0 ≤ 65536 → Calls Try.prog 5 #[.slice a0 l0 c0, .slice a1 l1 c1] w fun e w' => FitsPost l0 l1 w e w')) :
    Calls Try.prog 3 #[.slice a0 l0 c0, .slice a1 l1 c1, .int .i64 x] w fun e w' => e = .returned (.bool true) ∧ Below w.heap.size w w' := by
  go_enter Try.func3, Try.ntmps3
  go_wp2_with fail
  refine (bytes4_any _ _ _ _ _ _ _ _).mono ?_
  rintro e w' ⟨r, rfl, rfl⟩
  cases r
  · go_wp2
    go_ret
    exact ⟨rfl, Below.refl _ _⟩
  go_wp2_with fail
  all_goals try (go_ret; exact ⟨rfl, Below.refl _ _⟩)
  refine (HF.out (by omega)).mono ?_
  rintro e w1 ⟨r, rfl, rfl, hr⟩
  have Hr : Hid (r = true → l0 = l1) := hr
  clear hr
  cases r
  · go_wp2
    go_ret
    exact ⟨rfl, Below.refl _ _⟩
  have hlen : Hid (l0 = l1) := Hr.out rfl
  by_cases hx : x < 0
  · go_wp2_with fail
    go_ret
    exact ⟨rfl, Below.refl _ _⟩
  · have hx2 : (l0 : Int) ≤ x := by
      have h1 := H.out
      have h2 := hlen.out
      omega
    go_wp2_with fail
    go_ret
    exact ⟨rfl, Below.refl _ _⟩

set_option maxHeartbeats 1000000 in
theorem law_main (b0 o0 c0 b1 o1 c1 n k : Nat) (f g : Nat → Int) (w : World) (hn : n ≤ 65536) (hk : k < n) (hb0 : b0 < w.heap.size) (hb1 : b1 < w.heap.size)
    (h0 : ∀ i, i < n → w.cell? ⟨b0, o0 + i, none⟩ = some (.int .i64 (f i))) (h1 : ∀ i, i < n → w.cell? ⟨b1, o1 + i, none⟩ = some (.int .i64 (g i))) :
    Calls Try.prog 3 #[.slice (some ⟨b0, o0, none⟩) n c0, .slice (some ⟨b1, o1, none⟩) n c1, .int .i64 k] w fun e w' => e = .returned (.bool true) ∧ Below w.heap.size w w' := by
  obtain ⟨w2, hcp0, hr0, hb2, hs2⟩ := copied 22 3 Try.underlying22 (by kernel_rfl) b0 o0 n c0 f w hb0 h0
  have h1' : ∀ i, i < n → w2.cell? ⟨b1, o1 + i, none⟩ = some (.int .i64 (g i)) := fun i hi => (hb2.cell (p := ⟨b1, o1 + i, none⟩) hb1).trans (h1 i hi)
  obtain ⟨w3, hcp1, hr1, hb3, hs3⟩ := copied 23 2 Try.underlying23 (by kernel_rfl) b1 o1 n c1 g w2 (by omega) h1'
  have hr03 : w3.rowIs w.heap.size 3 n (fun i => .int .i64 (f i)) := hr0.of_block (hb3.block _ hr0.lt)
  have HS2 : Hid (w2.heap.size = w.heap.size + 1) := hs2
  have HS3 : Hid (w3.heap.size = w2.heap.size + 1) := hs3
  clear hs2 hs3 h1 h1' hr0
  have hmk0 := make22 n hn
  have hmk1 := make23 n hn
  have H0 : Hid (∀ i, i < n → w.cell? ⟨b0, o0 + i, none⟩ = some (.int .i64 (f i))) := h0
  have hkn : (k : Int) < (n : Int) := by omega
  clear h0
  go_enter Try.func3, Try.ntmps3
  go_wp2_with fail
  refine (bytes4_any _ _ _ _ _ _ _ _).mono ?_
  rintro e w ⟨r, rfl, rfl⟩
  cases r
  · go_wp2
    go_ret
    exact ⟨rfl, Below.refl _ _⟩
  go_wp2_with fail
  all_goals try (go_ret; exact ⟨rfl, Below.refl _ _⟩)
  refine (fits_row b0 o0 n c0 f _ n c1 _ hn H0.out).mono ?_
  rintro e w ⟨r, rfl, rfl, _⟩
  cases r
  · go_wp2
    go_ret
    exact ⟨rfl, Below.refl _ _⟩
  go_wp2_with fail
  refine (zzfurther_nil _ _).mono ?_
  rintro e w3 ⟨rfl, rfl⟩
  go_wp2_with fail
  refine (newIndex w.heap.size w2.heap.size n f g _ hn hr03.lt hr1.lt (fun i hi => hr03.cell hi) (fun i hi => hr1.cell hi)).mono ?_
  rintro e w4 ⟨p, rfl, ⟨r, hp, hrow⟩, hb4⟩
  obtain ⟨hx1, hx2⟩ := hrow k hk
  have hlast : w4.cell? ⟨w.heap.size, k, none⟩ = some (.int .i64 (f k)) := (hb4.cell (p := ⟨w.heap.size, k, none⟩) hr03.lt).trans (hr03.cell hk)
  have hlt4 : w.heap.size < w4.heap.size := Nat.lt_of_lt_of_le hr03.lt hb4.size
  have hB4 : Below w.heap.size w w4 := (hb2.trans (hb3.mono hb2.size)).trans (hb4.mono (Nat.le_trans hb2.size hb3.size))
  clear hrow hcp0 hcp1 hmk0 hmk1 hr03 hr1
  by_cases hneg : f k < 0
  · have hne : (f k == (k : Int)) = false := beq_eq_false_iff_ne.2 (by omega)
    go_wp2_with fail
    refine (zzfurther_neg p r n k (f k) (g k) _ hk hp hx1 hx2 hneg).mono ?_
    rintro e w5 ⟨rfl, hb5⟩
    have hl5 : w5.cell? ⟨w.heap.size, k, none⟩ = some (.int .i64 (f k)) := (hb5.cell (p := ⟨w.heap.size, k, none⟩) hlt4).trans hlast
    have hB5 : Below w.heap.size w w5 := hB4.trans (hb5.mono hB4.size)
    clear hlast hx1 hx2 hp
    go_wp2
    all_goals (go_ret; exact ⟨rfl, hB5⟩)
  · go_wp2_with fail
    refine (zzfurther_pos p r n k (f k) _ hk hp hx1 (by omega)).mono ?_
    rintro e w5 ⟨rfl, hb5⟩
    have hl5 : w5.cell? ⟨w.heap.size, k, none⟩ = some (.int .i64 (f k)) := (hb5.cell (p := ⟨w.heap.size, k, none⟩) hlt4).trans hlast
    have hB5 : Below w.heap.size w w5 := hB4.trans (hb5.mono hB4.size)
    clear hlast hx1 hx2 hp
    by_cases heq : (f k == (k : Int)) = true
    · go_wp2
      all_goals (go_ret; exact ⟨rfl, hB5⟩)
    · have hne : (f k == (k : Int)) = false := by simpa using heq
      clear heq
      go_wp2
      all_goals (go_ret; exact ⟨rfl, hB5⟩)

end Go.Proofs.Qxb6616479a
