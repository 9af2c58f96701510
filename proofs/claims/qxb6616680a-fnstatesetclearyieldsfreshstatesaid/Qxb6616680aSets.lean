/-
  DERIVED. THE WALKS of what the two laws on stateSet call.
-/
import Derived.Test.Qxb6616680aHeap
import Derived.WalkSpells
import Derived.WalkLawsBesides
import Derived.Deep.QuietTactic
import Derived.BigQuiet
namespace Go.Proofs.Qxb6616680a
open Go.RowKit Go.Deep

theorem info21 : (Try.prog.info? 21).map (fun i => (i.zero, i.size, i.bytes)) = some (some (.int .i32 0), 1, 4) := by kernel_rfl
theorem info3 : (Try.prog.info? 3).map (fun i => (i.zero, i.size, i.bytes)) = some (some (.int .i64 0), 1, 8) := by kernel_rfl
theorem make22 (n : Nat) (hn : n ≤ 65536) (w : World) :
    (Instr.makeSlice 22 (.int .i64 (n : Int)) (.int .i64 (n : Int))).run Try.prog w = .ok (.slice (some ⟨w.heap.size, 0, none⟩) n n) (w.alloc (.cells (madeCells #[.int .i32 0] n) 21)) :=
  run_make_row' 22 21 (.int .i32 0) 4 Try.underlying22 info21 rfl .i64 .i64 n (by omega) (by omega) w
theorem make23 (n : Nat) (hn : n ≤ 65536) (w : World) :
    (Instr.makeSlice 23 (.int .i64 (n : Int)) (.int .i64 (n : Int))).run Try.prog w = .ok (.slice (some ⟨w.heap.size, 0, none⟩) n n) (w.alloc (.cells (madeCells #[.int .i64 0] n) 3)) :=
  run_make_row' 23 3 (.int .i64 0) 8 Try.underlying23 info3 rfl .i64 .i64 n (by omega) (by omega) w

theorem eqlNil22 (a : Option Addr) (n c : Nat) (w : World) : (binOp .eql 22 (.slice a n c) (.slice none 0 0)).run Try.prog w = .ok (.bool a.isNone) w := Lib.run_eql_slice_nil w 22 21 a n c 0 0 Try.underlying22
theorem eqlNil23 (a : Option Addr) (n c : Nat) (w : World) : (binOp .eql 23 (.slice a n c) (.slice none 0 0)).run Try.prog w = .ok (.bool a.isNone) w := Lib.run_eql_slice_nil w 23 3 a n c 0 0 Try.underlying23
attribute [local go_sem] eqlNil22 eqlNil23

/-! ### cloneI32, cloneInts -/
set_option maxHeartbeats 400000 in
theorem clone8_nil (c : Nat) (z : Nat → Int) (w : World) :
    Calls Try.prog 8 #[.slice none 0 c] w fun e w' => ClonePost 21 0 (fun i => .int .i32 (z i)) w e w' := by
  go_enter Try.func8, Try.ntmps8
  go_wp2
  go_ret
  exact clone_nil w 21 _

set_option maxHeartbeats 400000 in
theorem clone8_zero (x : Addr) (c : Nat) (z : Nat → Int) (w : World) :
    Calls Try.prog 8 #[.slice (some x) 0 c] w fun e w' => ClonePost 21 0 (fun i => .int .i32 (z i)) w e w' := by
  have hmk := make22 0 (by omega)
  simp only [Int.natCast_zero] at hmk
  have hcl := cloned_start w 21 0 (.int .i32 0) (fun i => .int .i32 (z i))
  go_enter Try.func8, Try.ntmps8
  go_wp2
  go_loopw [4] (fun i wr => i = .int .i64 0 ∧ Cloned w 21 0 (fun i => .int .i32 (z i)) 0 wr) (fun _ _ => 0)
  case atStart => exact ⟨rfl, hcl⟩
  case round =>
    obtain ⟨rfl, hfil⟩ := hrel
    go_wp2
    go_ret
    exact clone_end hfil

set_option maxHeartbeats 400000 in
theorem clone8_row (b o n c : Nat) (z : Nat → Int) (w : World) (hn : n ≤ 65536) (hb : b < w.heap.size) (hc : ∀ i, i < n → w.cell? ⟨b, o + i, none⟩ = some (.int .i32 (z i))) :
    Calls Try.prog 8 #[.slice (some ⟨b, o, none⟩) n c] w fun e w' => ClonePost 21 n (fun i => .int .i32 (z i)) w e w' := by
  have hmk := make22 n hn
  have hcl := cloned_start w 21 n (.int .i32 0) (fun i => .int .i32 (z i))
  go_enter Try.func8, Try.ntmps8
  go_wp2
  go_loopw [4] (fun i wr => ∃ k : Nat, k ≤ n ∧ i = .int .i64 k ∧ Cloned w 21 n (fun i => .int .i32 (z i)) k wr) (fun i _ => n - (intOf i).toNat)
  case atStart => exact ⟨0, Nat.zero_le _, rfl, hcl⟩
  case round =>
    obtain ⟨k, hk, rfl, hfil⟩ := hrel
    by_cases hlt : k < n
    · have hlt' : (k : Int) < (n : Int) := by omega
      have hbw : Below w.heap.size w wr := by obtain ⟨_, _, _, h⟩ := hfil; exact h
      have hc0 : wr.cell? ⟨b, o + k, none⟩ = some (.int .i32 (z k)) := (hbw.cell (p := ⟨b, o + k, none⟩) hb).trans (hc k hlt)
      obtain ⟨⟨u, q1⟩, q2⟩ := cloned_cell hfil hlt
      clear hc hmk hcl
      go_wp2
      go_roundw
      case rel => exact ⟨k + 1, by omega, by go_num, cloned_step hfil⟩
      case measure => simp [intOf]; omega
    · have hkn : k = n := by omega
      subst hkn
      go_wp2
      go_ret
      exact clone_end hfil

theorem clone8_any (a : Option Addr) (n c : Nat) (z : Nat → Int) (w : World) (hn : n ≤ 65536) (ha : a = none → n = 0) (h : Src w a n (fun i => .int .i32 (z i))) :
    Calls Try.prog 8 #[.slice a n c] w fun e w' => ClonePost 21 n (fun i => .int .i32 (z i)) w e w' := by
  rcases h with rfl | ⟨b, o, rfl, hb, hc⟩
  · cases a with
    | none => exact clone8_nil c z w
    | some x => exact clone8_zero x c z w
  · exact clone8_row b o n c z w hn hb hc

set_option maxHeartbeats 400000 in
theorem clone9_nil (c : Nat) (z : Nat → Int) (w : World) :
    Calls Try.prog 9 #[.slice none 0 c] w fun e w' => ClonePost 3 0 (fun i => .int .i64 (z i)) w e w' := by
  go_enter Try.func9, Try.ntmps9
  go_wp2
  go_ret
  exact clone_nil w 3 _

set_option maxHeartbeats 400000 in
theorem clone9_zero (x : Addr) (c : Nat) (z : Nat → Int) (w : World) :
    Calls Try.prog 9 #[.slice (some x) 0 c] w fun e w' => ClonePost 3 0 (fun i => .int .i64 (z i)) w e w' := by
  have hmk := make23 0 (by omega)
  simp only [Int.natCast_zero] at hmk
  have hcl := cloned_start w 3 0 (.int .i64 0) (fun i => .int .i64 (z i))
  go_enter Try.func9, Try.ntmps9
  go_wp2
  go_loopw [4] (fun i wr => i = .int .i64 0 ∧ Cloned w 3 0 (fun i => .int .i64 (z i)) 0 wr) (fun _ _ => 0)
  case atStart => exact ⟨rfl, hcl⟩
  case round =>
    obtain ⟨rfl, hfil⟩ := hrel
    go_wp2
    go_ret
    exact clone_end hfil

set_option maxHeartbeats 400000 in
theorem clone9_row (b o n c : Nat) (z : Nat → Int) (w : World) (hn : n ≤ 65536) (hb : b < w.heap.size) (hc : ∀ i, i < n → w.cell? ⟨b, o + i, none⟩ = some (.int .i64 (z i))) :
    Calls Try.prog 9 #[.slice (some ⟨b, o, none⟩) n c] w fun e w' => ClonePost 3 n (fun i => .int .i64 (z i)) w e w' := by
  have hmk := make23 n hn
  have hcl := cloned_start w 3 n (.int .i64 0) (fun i => .int .i64 (z i))
  go_enter Try.func9, Try.ntmps9
  go_wp2
  go_loopw [4] (fun i wr => ∃ k : Nat, k ≤ n ∧ i = .int .i64 k ∧ Cloned w 3 n (fun i => .int .i64 (z i)) k wr) (fun i _ => n - (intOf i).toNat)
  case atStart => exact ⟨0, Nat.zero_le _, rfl, hcl⟩
  case round =>
    obtain ⟨k, hk, rfl, hfil⟩ := hrel
    by_cases hlt : k < n
    · have hlt' : (k : Int) < (n : Int) := by omega
      have hbw : Below w.heap.size w wr := by obtain ⟨_, _, _, h⟩ := hfil; exact h
      have hc0 : wr.cell? ⟨b, o + k, none⟩ = some (.int .i64 (z k)) := (hbw.cell (p := ⟨b, o + k, none⟩) hb).trans (hc k hlt)
      obtain ⟨⟨u, q1⟩, q2⟩ := cloned_cell hfil hlt
      clear hc hmk hcl
      go_wp2
      go_roundw
      case rel => exact ⟨k + 1, by omega, by go_num, cloned_step hfil⟩
      case measure => simp [intOf]; omega
    · have hkn : k = n := by omega
      subst hkn
      go_wp2
      go_ret
      exact clone_end hfil

theorem clone9_any (a : Option Addr) (n c : Nat) (z : Nat → Int) (w : World) (hn : n ≤ 65536) (ha : a = none → n = 0) (h : Src w a n (fun i => .int .i64 (z i))) :
    Calls Try.prog 9 #[.slice a n c] w fun e w' => ClonePost 3 n (fun i => .int .i64 (z i)) w e w' := by
  rcases h with rfl | ⟨b, o, rfl, hb, hc⟩
  · cases a with
    | none => exact clone9_nil c z w
    | some x => exact clone9_zero x c z w
  · exact clone9_row b o n c z w hn hb hc

/-! ### the set -/
set_option maxHeartbeats 400000 in
theorem newSet (a a2 : Option Addr) (n c n2 c2 : Nat) (x : Int) (w : World) :
    Calls Try.prog 10 #[.slice a n c, .slice a2 n2 c2, .int .i64 x] w fun e w' =>
      e = .returned (.pointer (some ⟨w.heap.size, 0, none⟩)) ∧ w' = w.alloc (.cells #[.slice a n c, .slice a2 n2 c2, .int .i64 x] 44) := by
  go_enter Try.func10, Try.ntmps10
  go_wp2
  go_ret
  exact ⟨rfl, rfl⟩

set_option maxHeartbeats 400000 in
theorem setSlots (p : Nat) (s k : Value) (x : Int) (w : World) (h : SetAt w p s k x) :
    Calls Try.prog 12 #[.pointer (some ⟨p, 0, none⟩)] w fun e w' => e = .returned s ∧ w' = w := by
  obtain ⟨h0, _⟩ := h.cells
  go_enter Try.func12, Try.ntmps12
  go_wp2
  go_ret
  exact ⟨rfl, rfl⟩

set_option maxHeartbeats 400000 in
theorem setKeys (p : Nat) (s k : Value) (x : Int) (w : World) (h : SetAt w p s k x) :
    Calls Try.prog 14 #[.pointer (some ⟨p, 0, none⟩)] w fun e w' => e = .returned k ∧ w' = w := by
  obtain ⟨_, h1, _⟩ := h.cells
  go_enter Try.func14, Try.ntmps14
  go_wp2
  go_ret
  exact ⟨rfl, rfl⟩

set_option maxHeartbeats 400000 in
theorem setN (p : Nat) (s k : Value) (x : Int) (w : World) (h : SetAt w p s k x) :
    Calls Try.prog 15 #[.pointer (some ⟨p, 0, none⟩)] w fun e w' => e = .returned (.int .i64 x) ∧ w' = w := by
  obtain ⟨_, _, h2, _⟩ := h.cells
  go_enter Try.func15, Try.ntmps15
  go_wp2
  go_ret
  exact ⟨rfl, rfl⟩

/-- What clear leaves: the same table, zero; the keys cut to none; the count 0; nothing else turned. -/
def ClearPost (p : Nat) (a : Option Addr) (n c : Nat) (a2 : Option Addr) (c2 : Nat) (w : World) (e : Ending) (w' : World) : Prop :=
  e = .returned (.tuple #[]) ∧ SetAt w' p (.slice a n c) (.slice a2 0 c2) 0 ∧ Sl w' 21 a n c (fun _ => .int .i32 0) ∧ Keeps (fun k => k = p ∨ a = some ⟨k, 0, none⟩) w w'

theorem clear_end {p : Nat} {a : Option Addr} {n c n2 : Nat} {a2 : Option Addr} {c2 : Nat} {x : Int} {w wc : World} (hne : ∀ g, a = some ⟨g, 0, none⟩ → g ≠ p)
    (hs : SetAt wc p (.slice a n c) (.slice a2 n2 c2) x) (hsl : Sl wc 21 a n c (fun _ => .int .i32 0)) (hk : Keeps (fun k => a = some ⟨k, 0, none⟩) w wc) :
    ClearPost p a n c a2 c2 w (.returned (.tuple #[])) ((wc.setCell ⟨p, 1, none⟩ (.slice a2 0 c2)).setCell ⟨p, 2, none⟩ (.int .i64 0)) := by
  have kw := keeps_written wc p (.slice a2 0 c2) (.int .i64 0)
  refine ⟨rfl, hs.written _ _, hsl.keep kw hne, kw.os.trans hk.os, kw.tape.trans hk.tape, kw.output.trans hk.output, Nat.le_trans hk.size kw.size, fun k hlt hS => ?_⟩
  exact (kw.block k (Nat.lt_of_lt_of_le hlt hk.size) (fun e => hS (.inl e))).trans (hk.block k hlt (fun e => hS (.inr e)))

set_option maxHeartbeats 400000 in
theorem clear_any (p : Nat) (a a2 : Option Addr) (n c n2 c2 : Nat) (x : Int) (f : Nat → Value) (w : World) (hs : SetAt w p (.slice a n c) (.slice a2 n2 c2) x) (hsl : Sl w 21 a n c f)
    (hne : ∀ g, a = some ⟨g, 0, none⟩ → g ≠ p) (h2 : a2 = none → n2 = 0 ∧ c2 = 0) :
    Calls Try.prog 23 #[.pointer (some ⟨p, 0, none⟩)] w fun e w' => ClearPost p a n c a2 c2 w e w' := by
  obtain ⟨wc, hcl, hsl', hk⟩ := cleared hsl
  have hs' : SetAt wc p (.slice a n c) (.slice a2 n2 c2) x := hs.keep hk (fun e => hne p e rfl)
  have hend := clear_end hne hs' hsl' hk
  obtain ⟨q0, _⟩ := hs.cells
  obtain ⟨r0, r1, r2, r3, r4⟩ := hs'.cells
  cases a2 with
  | none =>
    obtain ⟨rfl, rfl⟩ := h2 rfl
    go_enter Try.func23, Try.ntmps23
    go_wp2_with (simp only [hcl])
    go_end0
    exact hend
  | some y =>
    go_enter Try.func23, Try.ntmps23
    go_wp2_with (simp only [hcl])
    go_end0
    exact hend

set_option maxHeartbeats 400000 in
theorem zzclear_any (p : Nat) (a a2 : Option Addr) (n c n2 c2 : Nat) (x : Int) (f : Nat → Value) (w : World) (hs : SetAt w p (.slice a n c) (.slice a2 n2 c2) x) (hsl : Sl w 21 a n c f)
    (hne : ∀ g, a = some ⟨g, 0, none⟩ → g ≠ p) (h2 : a2 = none → n2 = 0 ∧ c2 = 0) :
    Calls Try.prog 11 #[.pointer (some ⟨p, 0, none⟩)] w fun e w' => ClearPost p a n c a2 c2 w e w' := by
  go_enter Try.func11, Try.ntmps11
  go_wp2_with (go_at_call 23; refine (clear_any p a a2 n c n2 c2 x f _ hs hsl hne h2).mono ?_; rintro e w' ⟨rfl, h⟩)
  go_end0
  exact ⟨rfl, h⟩

/-! ### equalI32 -/
set_option maxHeartbeats 400000 in
theorem equal16_zero (a b : Option Addr) (c d : Nat) (w : World) :
    Calls Try.prog 16 #[.slice a 0 c, .slice b 0 d] w fun e w' => e = .returned (.bool true) ∧ Below w.heap.size w w' := by
  go_enter Try.func16, Try.ntmps16
  go_wp2
  go_loop [5] (fun i => i = .int .i64 0) (fun _ => 0)
  case atStart => rfl
  case round =>
    subst hrel
    go_wp2
    go_ret
    exact ⟨rfl, Below.refl _ _⟩

set_option maxHeartbeats 400000 in
theorem equal16_row (g h n : Nat) (z : Nat → Int) (w : World) (hn : n ≤ 65536) (hg : w.rowIs g 21 n (fun i => .int .i32 (z i))) (hh : w.rowIs h 21 n (fun i => .int .i32 (z i))) :
    Calls Try.prog 16 #[.slice (some ⟨g, 0, none⟩) n n, .slice (some ⟨h, 0, none⟩) n n] w fun e w' => e = .returned (.bool true) ∧ Below w.heap.size w w' := by
  go_enter Try.func16, Try.ntmps16
  go_wp2
  go_loopw [5] (fun i wr => ∃ k : Nat, k ≤ n ∧ i = .int .i64 k ∧ Below w.heap.size w wr) (fun i _ => n - (intOf i).toNat)
  case atStart => exact ⟨0, Nat.zero_le _, rfl, Below.refl _ _⟩
  case round =>
    obtain ⟨k, hk, rfl, hb⟩ := hrel
    by_cases hlt : k < n
    · have hlt' : (k : Int) < (n : Int) := by omega
      have c1 : wr.cell? ⟨g, k, none⟩ = some (.int .i32 (z k)) := (hb.cell (p := ⟨g, k, none⟩) hg.lt).trans (hg.cell hlt)
      have c2 : wr.cell? ⟨h, k, none⟩ = some (.int .i32 (z k)) := (hb.cell (p := ⟨h, k, none⟩) hh.lt).trans (hh.cell hlt)
      go_wp2
      go_quiet (fail)
      go_wp2
      go_roundw
      case rel => exact ⟨k + 1, by omega, by go_num, below_drewN hb _⟩
      case measure => simp [intOf]; omega
    · go_wp2
      go_ret
      exact ⟨rfl, hb⟩

theorem equal16_any (a b : Option Addr) (n c d : Nat) (z : Nat → Int) (w : World) (hn : n ≤ 65536) (ha : Sl w 21 a n c (fun i => .int .i32 (z i))) (hb : Sl w 21 b n d (fun i => .int .i32 (z i))) :
    Calls Try.prog 16 #[.slice a n c, .slice b n d] w fun e w' => e = .returned (.bool true) ∧ Below w.heap.size w w' := by
  rcases ha with ⟨_, rfl, _⟩ | ⟨g, rfl, rfl, hg⟩
  · exact equal16_zero a b c d w
  · rcases hb with ⟨_, rfl, _⟩ | ⟨h, rfl, rfl, hh⟩
    · exact equal16_zero _ b _ d w
    · exact equal16_row g h _ z w hn hg hh

/-! ### equalInts -/
set_option maxHeartbeats 400000 in
theorem equal18_zero (a b : Option Addr) (c d : Nat) (w : World) :
    Calls Try.prog 18 #[.slice a 0 c, .slice b 0 d] w fun e w' => e = .returned (.bool true) ∧ Below w.heap.size w w' := by
  go_enter Try.func18, Try.ntmps18
  go_wp2
  go_loop [5] (fun i => i = .int .i64 0) (fun _ => 0)
  case atStart => rfl
  case round =>
    subst hrel
    go_wp2
    go_ret
    exact ⟨rfl, Below.refl _ _⟩

set_option maxHeartbeats 400000 in
theorem equal18_row (g h n : Nat) (z : Nat → Int) (w : World) (hn : n ≤ 65536) (hg : w.rowIs g 3 n (fun i => .int .i64 (z i))) (hh : w.rowIs h 3 n (fun i => .int .i64 (z i))) :
    Calls Try.prog 18 #[.slice (some ⟨g, 0, none⟩) n n, .slice (some ⟨h, 0, none⟩) n n] w fun e w' => e = .returned (.bool true) ∧ Below w.heap.size w w' := by
  go_enter Try.func18, Try.ntmps18
  go_wp2
  go_loopw [5] (fun i wr => ∃ k : Nat, k ≤ n ∧ i = .int .i64 k ∧ Below w.heap.size w wr) (fun i _ => n - (intOf i).toNat)
  case atStart => exact ⟨0, Nat.zero_le _, rfl, Below.refl _ _⟩
  case round =>
    obtain ⟨k, hk, rfl, hb⟩ := hrel
    by_cases hlt : k < n
    · have hlt' : (k : Int) < (n : Int) := by omega
      have c1 : wr.cell? ⟨g, k, none⟩ = some (.int .i64 (z k)) := (hb.cell (p := ⟨g, k, none⟩) hg.lt).trans (hg.cell hlt)
      have c2 : wr.cell? ⟨h, k, none⟩ = some (.int .i64 (z k)) := (hb.cell (p := ⟨h, k, none⟩) hh.lt).trans (hh.cell hlt)
      go_wp2
      go_quiet (fail)
      go_wp2
      go_roundw
      case rel => exact ⟨k + 1, by omega, by go_num, below_drewN hb _⟩
      case measure => simp [intOf]; omega
    · go_wp2
      go_ret
      exact ⟨rfl, hb⟩

theorem equal18_any (a b : Option Addr) (n c d : Nat) (z : Nat → Int) (w : World) (hn : n ≤ 65536) (ha : Sl w 3 a n c (fun i => .int .i64 (z i))) (hb : Sl w 3 b n d (fun i => .int .i64 (z i))) :
    Calls Try.prog 18 #[.slice a n c, .slice b n d] w fun e w' => e = .returned (.bool true) ∧ Below w.heap.size w w' := by
  rcases ha with ⟨_, rfl, _⟩ | ⟨g, rfl, rfl, hg⟩
  · exact equal18_zero a b c d w
  · rcases hb with ⟨_, rfl, _⟩ | ⟨h, rfl, rfl, hh⟩
    · exact equal18_zero _ b _ d w
    · exact equal18_row g h _ z w hn hg hh

/-! ### allZeroI32 -/
set_option maxHeartbeats 400000 in
theorem zero13_zero (a : Option Addr) (c : Nat) (w : World) :
    Calls Try.prog 13 #[.slice a 0 c] w fun e w' => e = .returned (.bool true) ∧ w' = w := by
  go_enter Try.func13, Try.ntmps13
  go_wp2
  go_loop [3] (fun i => i = .int .i64 0) (fun _ => 0)
  case atStart => rfl
  case round =>
    subst hrel
    go_wp2
    go_ret
    exact ⟨rfl, rfl⟩

set_option maxHeartbeats 400000 in
theorem zero13_row (g n : Nat) (w : World) (hn : n ≤ 65536) (hg : w.rowIs g 21 n (fun _ => .int .i32 0)) :
    Calls Try.prog 13 #[.slice (some ⟨g, 0, none⟩) n n] w fun e w' => e = .returned (.bool true) ∧ w' = w := by
  go_enter Try.func13, Try.ntmps13
  go_wp2
  go_loop [3] (fun i => ∃ k : Nat, k ≤ n ∧ i = .int .i64 k) (fun i => n - (intOf i).toNat)
  case atStart => exact ⟨0, Nat.zero_le _, rfl⟩
  case round =>
    obtain ⟨k, hk, rfl⟩ := hrel
    by_cases hlt : k < n
    · have hlt' : (k : Int) < (n : Int) := by omega
      have c1 : w.cell? ⟨g, k, none⟩ = some (.int .i32 0) := hg.cell hlt
      go_wp2
      go_round
      case rel => exact ⟨k + 1, by omega, by go_num⟩
      case measure => simp [intOf]; omega
    · go_wp2
      go_ret
      exact ⟨rfl, rfl⟩

theorem zero13_any (a : Option Addr) (n c : Nat) (w : World) (hn : n ≤ 65536) (ha : Sl w 21 a n c (fun _ => .int .i32 0)) :
    Calls Try.prog 13 #[.slice a n c] w fun e w' => e = .returned (.bool true) ∧ w' = w := by
  rcases ha with ⟨_, rfl, _⟩ | ⟨g, rfl, rfl, hg⟩
  · exact zero13_zero a c w
  · exact zero13_row g _ w hn hg

/-! ### the bounds on lengths -/
set_option maxHeartbeats 400000 in
theorem bytes7_any (a0 a1 : Option Addr) (l0 c0 l1 c1 : Nat) (x : Int) (w : World) :
    Calls Try.prog 7 #[.slice a0 l0 c0, .slice a1 l1 c1, .int .i64 x] w fun e w' => ∃ r : Bool, e = .returned (.bool r) ∧ w' = w := by
  go_enter Try.func7, Try.ntmps7
  go_wp2
  all_goals (go_ret; exact ⟨_, rfl, rfl⟩)

set_option maxHeartbeats 400000 in
theorem bytes17_any (a0 a1 a2 : Option Addr) (l0 c0 l1 c1 l2 c2 : Nat) (x y : Int) (w : World) :
    Calls Try.prog 17 #[.slice a0 l0 c0, .slice a1 l1 c1, .int .i64 x, .slice a2 l2 c2, .int .i64 y] w fun e w' => ∃ r : Bool, e = .returned (.bool r) ∧ w' = w := by
  go_enter Try.func17, Try.ntmps17
  go_wp2
  all_goals (go_ret; exact ⟨_, rfl, rfl⟩)

end Go.Proofs.Qxb6616680a
