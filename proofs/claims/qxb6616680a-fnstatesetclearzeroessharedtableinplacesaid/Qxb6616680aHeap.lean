/-
  DERIVED. PLAIN FACTS ON MEMORY for the two laws on stateSet: what a call may write, a slice over a row of its own, a set at an address. No walk here.
-/
import Derived.Test.Qxb6616680aRows
import Derived.WalkKit
import Derived.Deep.OwnRows
import Derived.Lib.SliceRun
import Derived.Lib.LazyBuf
namespace Go.Proofs.Qxb6616680a
open Go.RowKit Go.Deep

/-- The world w' is w but for new blocks and for the old blocks in S. -/
structure Keeps (S : Nat → Prop) (w w' : World) : Prop where
  os : w'.os = w.os
  tape : w'.tape = w.tape
  output : w'.output = w.output
  size : w.heap.size ≤ w'.heap.size
  block : ∀ k, k < w.heap.size → ¬ S k → w'.heap[k]? = w.heap[k]?

theorem keeps_of_below {w w' : World} (h : Below w.heap.size w w') : Keeps (fun _ => False) w w' := ⟨h.os, h.tape, h.output, h.size, fun k hk _ => h.block k hk⟩

theorem below_keeps {S : Nat → Prop} {w0 w w' : World} (h0 : Below w0.heap.size w0 w) (h : Keeps S w w') (hS : ∀ k, S k → w0.heap.size ≤ k) : Below w0.heap.size w0 w' :=
  ⟨h.os.trans h0.os, h.tape.trans h0.tape, h.output.trans h0.output, Nat.le_trans h0.size h.size,
    fun k hk => (h.block k (Nat.lt_of_lt_of_le hk h0.size) (fun hs => by have := hS k hs; omega)).trans (h0.block k hk)⟩

/-- The slice (a, n, c) is nil, or it is a row of its own of n cells. -/
def Sl (w : World) (E : TypeId) (a : Option Addr) (n c : Nat) (f : Nat → Value) : Prop :=
  (a = none ∧ n = 0 ∧ c = 0) ∨ ∃ g, a = some ⟨g, 0, none⟩ ∧ c = n ∧ w.rowIs g E n f

theorem Sl.keep {S : Nat → Prop} {w w' : World} {E : TypeId} {a : Option Addr} {n c : Nat} {f : Nat → Value} (h : Sl w E a n c f) (hk : Keeps S w w') (hS : ∀ g, a = some ⟨g, 0, none⟩ → ¬ S g) : Sl w' E a n c f := by
  rcases h with h | ⟨g, ha, hc, hr⟩
  · exact .inl h
  · exact .inr ⟨g, ha, hc, hr.of_block (hk.block g hr.lt (hS g ha))⟩

theorem Sl.lt {w : World} {E : TypeId} {a : Option Addr} {n c : Nat} {f : Nat → Value} (h : Sl w E a n c f) (g : Nat) (hg : a = some ⟨g, 0, none⟩) : g < w.heap.size := by
  rcases h with ⟨h, _⟩ | ⟨g', ha, _, hr⟩
  · rw [h] at hg; cases hg
  · rw [ha] at hg
    simp at hg
    rw [← hg]
    exact hr.lt

/-- What a clone reads: nothing, or n cells that were there. -/
def Src (w : World) (a : Option Addr) (n : Nat) (f : Nat → Value) : Prop :=
  n = 0 ∨ ∃ b o, a = some ⟨b, o, none⟩ ∧ b < w.heap.size ∧ ∀ i, i < n → w.cell? ⟨b, o + i, none⟩ = some (f i)

theorem Sl.src {w : World} {E : TypeId} {a : Option Addr} {n c : Nat} {f : Nat → Value} (h : Sl w E a n c f) : Src w a n f := by
  rcases h with ⟨_, h, _⟩ | ⟨g, ha, _, hr⟩
  · exact .inl h
  · exact .inr ⟨g, 0, ha, hr.lt, fun i hi => by rw [Nat.zero_add]; exact hr.cell hi⟩

theorem Src.below {w0 w : World} {a : Option Addr} {n : Nat} {f : Nat → Value} (h : Src w0 a n f) (hb : Below w0.heap.size w0 w) : Src w a n f := by
  rcases h with h | ⟨b, o, ha, hlt, hc⟩
  · exact .inl h
  · exact .inr ⟨b, o, ha, Nat.lt_of_lt_of_le hlt hb.size, fun i hi => (hb.cell (p := ⟨b, o + i, none⟩) hlt).trans (hc i hi)⟩

/-- A stateSet at p: its table, its keys, its count. -/
def SetAt (w : World) (p : Nat) (s k : Value) (x : Int) : Prop := w.rowIs p 44 3 (fun i => if i = 0 then s else if i = 1 then k else .int .i64 x)

theorem SetAt.keep {S : Nat → Prop} {w w' : World} {p : Nat} {s k : Value} {x : Int} (h : SetAt w p s k x) (hk : Keeps S w w') (hS : ¬ S p) : SetAt w' p s k x := h.of_block (hk.block p h.lt hS)

theorem SetAt.cells {w : World} {p : Nat} {s k : Value} {x : Int} (h : SetAt w p s k x) :
    w.cell? ⟨p, 0, none⟩ = some s ∧ w.cell? ⟨p, 1, none⟩ = some k ∧ w.cell? ⟨p, 2, none⟩ = some (.int .i64 x) ∧ w.frozen? ⟨p, 1, none⟩ = false ∧ w.frozen? ⟨p, 2, none⟩ = false :=
  ⟨World.rowIs.cell h (i := 0) (by omega), World.rowIs.cell h (i := 1) (by omega), World.rowIs.cell h (i := 2) (by omega), World.rowIs.frozen h 1, World.rowIs.frozen h 2⟩

/-- Keys, then count, written. -/
theorem SetAt.written {w : World} {p : Nat} {s k : Value} {x : Int} (h : SetAt w p s k x) (k' : Value) (x' : Int) :
    SetAt ((w.setCell ⟨p, 1, none⟩ k').setCell ⟨p, 2, none⟩ (.int .i64 x')) p s k' x' := by
  have h2 := (World.rowIs.set h 1 k').set 2 (.int .i64 x')
  refine h2.congr fun i hi => ?_
  have hi' : i = 0 ∨ i = 1 ∨ i = 2 := by omega
  rcases hi' with rfl | rfl | rfl <;> simp

theorem keeps_written (w : World) (p : Nat) (u v : Value) : Keeps (fun k => k = p) w ((w.setCell ⟨p, 1, none⟩ u).setCell ⟨p, 2, none⟩ v) := by
  have hb : ∀ k, k ≠ p → ((w.setCell ⟨p, 1, none⟩ u).setCell ⟨p, 2, none⟩ v).heap[k]? = w.heap[k]? := fun k hk => by
    rw [blk_setCell_other _ _ _ _ (by exact hk), blk_setCell_other _ _ _ _ (by exact hk)]
  refine ⟨rfl, rfl, rfl, ?_, fun k _ hk => hb k hk⟩
  simp [World.setCell]

theorem setAt_new (w : World) (s k : Value) (x : Int) : SetAt (w.alloc (.cells #[s, k, .int .i64 x] 44)) w.heap.size s k x := by
  refine ⟨_, blk_alloc_new _ _, rfl, fun i hi => ?_⟩
  have hi' : i = 0 ∨ i = 1 ∨ i = 2 := by omega
  rcases hi' with rfl | rfl | rfl <;> rfl

/-- The first k cells are copied. -/
def Cloned (w : World) (E : TypeId) (n : Nat) (f : Nat → Value) (k : Nat) (wr : World) : Prop :=
  ∃ F, wr.rowIs w.heap.size E n F ∧ (∀ j, j < k → F j = f j) ∧ Below w.heap.size w wr

theorem cloned_start (w : World) (E : TypeId) (n : Nat) (z : Value) (f : Nat → Value) : Cloned w E n f 0 (w.alloc (.cells (madeCells #[z] n) E)) :=
  ⟨_, World.rowIs_made w z n E, fun j hj => by omega, (Below.refl _ _).alloc (Nat.le_refl _) _⟩

theorem cloned_step {w : World} {E : TypeId} {n : Nat} {f : Nat → Value} {k : Nat} {wr : World} (h : Cloned w E n f k wr) : Cloned w E n f (k + 1) (wr.setCell ⟨w.heap.size, k, none⟩ (f k)) := by
  obtain ⟨F, hr, hF, hb⟩ := h
  refine ⟨_, hr.set k (f k), fun j hj => ?_, hb.setCell (Nat.le_refl _) _⟩
  by_cases hjk : j = k
  · simp [hjk]
  · simp only [hjk, if_false]
    exact hF j (by omega)

theorem cloned_cell {w : World} {E : TypeId} {n : Nat} {f : Nat → Value} {k : Nat} {wr : World} (h : Cloned w E n f k wr) (hk : k < n) :
    (∃ u, wr.cell? ⟨w.heap.size, k, none⟩ = some u) ∧ wr.frozen? ⟨w.heap.size, k, none⟩ = false := by
  obtain ⟨F, hr, _, _⟩ := h
  exact ⟨⟨_, hr.cell hk⟩, hr.frozen k⟩

def ClonePost (E : TypeId) (n : Nat) (f : Nat → Value) (w : World) (e : Ending) (w' : World) : Prop :=
  ∃ a c, e = .returned (.slice a n c) ∧ Sl w' E a n c f ∧ (∀ g, a = some ⟨g, 0, none⟩ → w.heap.size ≤ g) ∧ Below w.heap.size w w'

theorem clone_end {w : World} {E : TypeId} {n : Nat} {f : Nat → Value} {wr : World} (h : Cloned w E n f n wr) : ClonePost E n f w (.returned (.slice (some ⟨w.heap.size, 0, none⟩) n n)) wr := by
  obtain ⟨F, hr, hF, hb⟩ := h
  exact ⟨_, _, rfl, .inr ⟨_, rfl, rfl, hr.congr fun i hi => hF i hi⟩, (fun g hg => by simp at hg; omega), hb⟩

theorem clone_nil (w : World) (E : TypeId) (f : Nat → Value) : ClonePost E 0 f w (.returned (.slice none 0 0)) w :=
  ⟨none, 0, rfl, .inl ⟨rfl, rfl, rfl⟩, (fun g hg => by cases hg), Below.refl _ _⟩

theorem zero21 (w : World) : (zeroValue 21).run Try.prog w = .ok (.int .i32 0) w := by kernel_rfl

theorem blk_setCells_other (g k : Nat) (hk : k ≠ g) : ∀ (vs : List Value) (o : Nat) (w : World), (w.setCells g o vs).heap[k]? = w.heap[k]?
  | [], _, _ => rfl
  | v :: r, o, w => by
    show ((w.setCell ⟨g, o, none⟩ v).setCells g (o + 1) r).heap[k]? = _
    rw [blk_setCells_other g k hk r (o + 1) _, blk_setCell_other _ _ _ _ (by exact hk)]

/-- 'clear(s)' over a slice of its own: the row is zero, nothing else turns. -/
theorem cleared {w : World} {a : Option Addr} {n c : Nat} {f : Nat → Value} (h : Sl w 21 a n c f) :
    ∃ wc, (∀ ty, (Builtin.clear_ #[22] ty #[.slice a n c]).run Try.prog w = .ok (.tuple #[]) wc) ∧ Sl wc 21 a n c (fun _ => .int .i32 0) ∧ Keeps (fun k => a = some ⟨k, 0, none⟩) w wc := by
  have hrefl : Keeps (fun k => a = some ⟨k, 0, none⟩) w w := ⟨rfl, rfl, rfl, Nat.le_refl _, fun _ _ _ => rfl⟩
  rcases h with ⟨rfl, rfl, rfl⟩ | ⟨g, rfl, rfl, hr⟩
  · exact ⟨w, fun ty => by simp [Builtin.clear_, run_underlying Try.underlying22], .inl ⟨rfl, rfl, rfl⟩, hrefl⟩
  · by_cases hn : c = 0
    · subst hn
      exact ⟨w, fun ty => by simp [Builtin.clear_, run_underlying Try.underlying22], .inr ⟨g, rfl, rfl, hr.congr fun i hi => by omega⟩, hrefl⟩
    · refine ⟨w.setCells g 0 (List.replicate c (.int .i32 0)), fun ty => ?_, ?_, ?_⟩
      · exact Lib.run_clear_slice w 22 21 ty (.int .i32 0) Try.underlying22 zero21 rfl rfl g 0 c c (by omega)
          (fun j hj => by rw [Nat.zero_add, hr.cell hj]; rfl) (fun j _ => hr.frozen _)
      · refine .inr ⟨g, rfl, rfl, ?_⟩
        refine (Go.rowIs_setCells _ 0 w f hr).congr fun j hj => ?_
        rw [if_pos (by simp; exact hj)]
        simp [hj]
      · have hb := Go.below_setCells (B := g) (b := g) (a := w) (Nat.le_refl _) (List.replicate c (Value.int .i32 0)) 0 w (Below.refl _ _)
        exact ⟨hb.os, hb.tape, hb.output, hb.size, fun k _ hk => blk_setCells_other g k (fun e => hk (by rw [e])) _ 0 w⟩

end Go.Proofs.Qxb6616680a
