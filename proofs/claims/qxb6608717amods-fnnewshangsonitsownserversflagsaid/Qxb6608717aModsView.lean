/-
  The views and the functions that the law calls: zzBytes, zzCloneBools, zzAllTrue, ZZnews. Proof text of this seat.
-/
import Derived.Test.Qxb6608717aModsRows
import Derived.WalkKit
import Derived.WalkSpells
import Derived.WalkLawsBesides
import Derived.Deep.OwnRows
namespace Go.Proofs.Qxb6608717aMods
open Go.RowKit

theorem hide {p : Prop} (h : p) : Hid p := h

/-- a row of bools behind a slice's address -/
def Bools (w : World) (a : Option Addr) (n : Nat) (B : Nat → Bool) : Prop :=
  ∀ i, i < n → ∃ b o, a = some ⟨b, o, none⟩ ∧ w.cell? ⟨b, o + i, none⟩ = some (.bool (B i))

theorem Bools.below {w w' : World} {a : Option Addr} {n : Nat} {B : Nat → Bool} (h : Bools w a n B) {z : Nat} (hb : Below z w w') (hz : w.heap.size ≤ z) : Bools w' a n B := fun i hi => by
  obtain ⟨b, o, e, hc⟩ := h i hi
  exact ⟨b, o, e, (hb.cell (by have := World.block_lt_of_cell? _ _ hc; simp at this ⊢; omega)).trans hc⟩

theorem rowIs_below {w w' : World} {b : Nat} {t : TypeId} {n : Nat} {f : Nat → Value} (h : w.rowIs b t n f) {z : Nat} (hb : Below z w w') (hz : w.heap.size ≤ z) : w'.rowIs b t n f :=
  h.of_block (hb.block _ (by have := h.lt; omega))

theorem Bools.of_row {w : World} {b n : Nat} {B : Nat → Bool} (h : w.rowIs b 4 n (fun i => .bool (B i))) : Bools w (some ⟨b, 0, none⟩) n B := fun i hi => ⟨b, 0, rfl, by rw [Nat.zero_add]; exact h.cell hi⟩

theorem Trym.info4 : (Trym.prog.info? 4).map (fun i => (i.zero, i.size, i.bytes)) = some (some (.bool false), 1, 1) := by kernel_rfl

/-- it answers some bool -/
def SomeBool (e : Ending) : Prop := ∃ x, e = .returned (.bool x)
theorem SomeBool.mk {x : Bool} : SomeBool (.returned (.bool x)) := ⟨x, rfl⟩

set_option maxHeartbeats 400000 in
theorem bytes_any (l s o : Int) (i c : Bool) (a : Option Addr) (n cap : Nat) (w : World) (hn : n ≤ 9223372036854775807) :
    Calls Trym.prog 13 #[.int .i64 l, .slice a n cap, .bool i, .int .i64 s, .bool c, .int .i64 o] w fun e w' => SomeBool e ∧ w' = w := by
  by_cases hb : 1048576 < n
  · go_enter Trym.func13, Trym.ntmps13
    go_wp2
    go_ret
    exact ⟨SomeBool.mk, rfl⟩
  · go_enter Trym.func13, Trym.ntmps13
    go_wp2
    go_ret
    exact ⟨SomeBool.mk, rfl⟩

/-- what one round of a copy does -/
theorem row_step {W wi : World} {m n : Nat} {S : Nat → Bool} (hb : Below W.heap.size W wi) (hr : wi.rowIs W.heap.size 4 n (fun j => if j < m then .bool (S j) else .bool false)) :
    Below W.heap.size W (wi.setCell ⟨W.heap.size, m, none⟩ (.bool (S m))) ∧ (wi.setCell ⟨W.heap.size, m, none⟩ (.bool (S m))).rowIs W.heap.size 4 n (fun j => if j < m + 1 then .bool (S j) else .bool false) := by
  refine ⟨hb.setCell (Nat.le_refl _) _, (hr.set m _).congr (fun j _ => ?_)⟩
  by_cases e : j = m
  · subst e; simp
  · simp only [if_neg e]
    by_cases h : j < m
    · rw [if_pos h, if_pos (by omega)]
    · rw [if_neg h, if_neg (by omega)]

/-- the copy: in a new row, where there is an element -/
def Fresh (w w' : World) (a : Option Addr) (n : Nat) (B : Nat → Bool) : Prop := 0 < n → a = some ⟨w.heap.size, 0, none⟩ ∧ w'.rowIs w.heap.size 4 n (fun i => .bool (B i))

theorem Fresh.bools {w w' : World} {a : Option Addr} {n : Nat} {B : Nat → Bool} (h : Fresh w w' a n B) : Bools w' a n B := fun i hi => by
  obtain ⟨rfl, hr⟩ := h (by omega)
  exact Bools.of_row hr i hi

set_option maxHeartbeats 400000 in
theorem clone_any (a : Option Addr) (n cap : Nat) (B : Nat → Bool) (w : World) (hn : n ≤ 65536) (h : Bools w a n B) :
    Calls Trym.prog 14 #[.slice a n cap] w fun e w' => ∃ a' c', e = .returned (.slice a' n c') ∧ Fresh w w' a' n B ∧ Below w.heap.size w w' := by
  have heq := fun W a n c => Lib.run_eql_slice_nil (P := Trym.prog) W 27 4 a n c 0 0 Trym.underlying27
  cases a with
  | none =>
    have hz : Hid (n = 0) := hide (by
      by_cases e : 0 < n
      · obtain ⟨_, _, e2, _⟩ := h 0 e; cases e2
      · exact Nat.eq_zero_of_not_pos e)
    go_enter Trym.func14, Trym.ntmps14
    go_wp2
    go_ret
    exact ⟨none, 0, by rw [hz.out]; rfl, fun e => by rw [hz.out] at e; omega, Below.refl _ _⟩
  | some x =>
    have hmk := run_make_row' (P := Trym.prog) 27 4 (.bool false) 1 Trym.underlying27 Trym.info4 rfl .i64 .i64 n (by omega) (by omega)
    go_enter Trym.func14, Trym.ntmps14
    go_wp2
    clear hmk heq
    go_loopw [4] (fun i wr => ∃ k : Nat, k ≤ n ∧ i = .int .i64 k ∧ Below w.heap.size w wr ∧ wr.rowIs w.heap.size 4 n (fun j => if j < k then .bool (B j) else .bool false)) (fun i _ => n - (intOf i).toNat)
    case atStart => exact ⟨0, Nat.zero_le _, rfl, (Below.refl _ _).alloc (Nat.le_refl _) _, (World.rowIs_made _ _ _ _).congr (fun j _ => by simp)⟩
    case round =>
      obtain ⟨k, hk, rfl, hb, hr⟩ := hrel
      by_cases hlt : k < n
      · obtain ⟨b, o, e, hc⟩ := h.below hb (Nat.le_refl _) k hlt
        simp at e
        subst e
        have g3 := hr.cell hlt
        have g4 := hr.frozen k
        have hst := row_step hb hr
        go_wp2
        go_roundw
        case rel => exact ⟨k + 1, by omega, by go_num, hst.1, hst.2⟩
        case measure => simp [intOf]; omega
      · go_wp2
        go_ret
        have e : k = n := by omega
        subst e
        exact ⟨_, _, rfl, fun _ => ⟨rfl, hr.congr (fun j hj => if_pos hj)⟩, hb⟩

set_option maxHeartbeats 400000 in
theorem alltrue_any (n : Nat) (w : World) (hn : n ≤ 65536) :
    Calls Trym.prog 16 #[.int .i64 n] w fun e w' => e = .returned (.slice (some ⟨w.heap.size, 0, none⟩) n n) ∧ Bools w' (some ⟨w.heap.size, 0, none⟩) n (fun _ => true) ∧ Below w.heap.size w w' := by
  have hmk := run_make_row' (P := Trym.prog) 27 4 (.bool false) 1 Trym.underlying27 Trym.info4 rfl .i64 .i64 n (by omega) (by omega)
  go_enter Trym.func16, Trym.ntmps16
  go_wp2
  clear hmk
  go_loopw [4] (fun i wr => ∃ k : Nat, k ≤ n ∧ i = .int .i64 k ∧ Below w.heap.size w wr ∧ wr.rowIs w.heap.size 4 n (fun j => if j < k then .bool true else .bool false)) (fun i _ => n - (intOf i).toNat)
  case atStart => exact ⟨0, Nat.zero_le _, rfl, (Below.refl _ _).alloc (Nat.le_refl _) _, (World.rowIs_made _ _ _ _).congr (fun j _ => by simp)⟩
  case round =>
    obtain ⟨k, hk, rfl, hb, hr⟩ := hrel
    by_cases hlt : k < n
    · have g3 := hr.cell hlt
      have g4 := hr.frozen k
      have hst := row_step (S := fun _ => true) hb hr
      go_wp2
      go_roundw
      case rel => exact ⟨k + 1, by omega, by go_num, hst.1, hst.2⟩
      case measure => simp [intOf]; omega
    · go_wp2
      go_ret
      have e : k = n := by omega
      subst e
      exact ⟨rfl, Bools.of_row (hr.congr (fun j hj => if_pos hj)), hb⟩

/-- what 'news' answers -/
def newsB (n : Nat) (B : Nat → Bool) (s : Nat) (c : Bool) : Bool := c || decide (n ≤ s) || !B s

set_option maxHeartbeats 400000 in
theorem news_any (l : Int) (a : Option Addr) (n cap : Nat) (B : Nat → Bool) (i : Bool) (s : Nat) (c : Bool) (w : World) (h : Bools w a n B) :
    Calls Trym.prog 15 #[.int .i64 l, .slice a n cap, .bool i, .int .i64 s, .bool c] w fun e w' => e = .returned (.bool (newsB n B s c)) ∧ Below w.heap.size w w' := by
  cases c with
  | true =>
    go_enter Trym.func15, Trym.ntmps15
    go_wp2
    go_ret
    exact ⟨rfl, ((Below.refl _ _).alloc (Nat.le_refl _) _).alloc (by simp) _⟩
  | false =>
    by_cases hs : n ≤ s
    · have e : newsB n B s false = true := by simp [newsB, hs]
      rw [e]
      clear e
      go_enter Trym.func15, Trym.ntmps15
      go_wp2
      go_ret
      exact ⟨rfl, ((Below.refl _ _).alloc (Nat.le_refl _) _).alloc (by simp) _⟩
    · have e : newsB n B s false = !B s := by simp [newsB, hs]
      rw [e]
      clear e
      obtain ⟨b, o, rfl, hc⟩ := h s (by omega)
      have hb : b < w.heap.size := by simpa using World.block_lt_of_cell? _ _ hc
      have hi : (s : Int) < n := by omega
      go_enter Trym.func15, Trym.ntmps15
      go_wp2
      go_ret
      exact ⟨rfl, ((Below.refl _ _).alloc (Nat.le_refl _) _).alloc (by simp) _⟩
end Go.Proofs.Qxb6608717aMods
