/-
  The views and the functions that the law calls: zzBytes, zzState, slices.Index, slices.Contains, ZZnewHolding. Proof text of this seat.
-/
import Derived.Test.Qxb6614545aModsRows
import Derived.WalkKit
import Derived.WalkSpells
import Derived.WalkLawsBesides
import Derived.Deep.OwnRows
import Derived.Laws.CopyOwn
namespace Go.Proofs.Qxb6614545aMods
open Go.RowKit

theorem hide {p : Prop} (h : p) : Hid p := h

/-- a row of ints behind a slice's address -/
def Ints (w : World) (a : Option Addr) (n : Nat) (Z : Nat → Int) : Prop :=
  ∀ i, i < n → ∃ b o, a = some ⟨b, o, none⟩ ∧ w.cell? ⟨b, o + i, none⟩ = some (.int .i64 (Z i))

theorem Ints.below {w w' : World} {a : Option Addr} {n : Nat} {Z : Nat → Int} (h : Ints w a n Z) {z : Nat} (hb : Below z w w') (hz : w.heap.size ≤ z) : Ints w' a n Z := fun i hi => by
  obtain ⟨b, o, e, hc⟩ := h i hi
  exact ⟨b, o, e, (hb.cell (by have := World.block_lt_of_cell? _ _ hc; simp at this ⊢; omega)).trans hc⟩

theorem Ints.of_row {w : World} {b n : Nat} {t : TypeId} {Z : Nat → Int} (h : w.rowIs b t n (fun i => .int .i64 (Z i))) : Ints w (some ⟨b, 0, none⟩) n Z := fun i hi => ⟨b, 0, rfl, by rw [Nat.zero_add]; exact h.cell hi⟩

theorem Trym.info3 : (Trym.prog.info? 3).map (fun i => (i.zero, i.size, i.bytes)) = some (some (.int .i64 0), 1, 8) := by kernel_rfl
theorem Trym.info39 : (Trym.prog.info? 39).map (fun i => (i.zero, i.size, i.bytes)) = some (some (.int .i64 0), 1, 8) := by kernel_rfl
theorem Trym.sz3 : (Trym.prog.info? 3).map (·.size) = some 1 := by kernel_rfl

/-- it answers some bool -/
def SomeBool (e : Ending) : Prop := ∃ x, e = .returned (.bool x)
theorem SomeBool.mk {x : Bool} : SomeBool (.returned (.bool x)) := ⟨x, rfl⟩

set_option maxHeartbeats 400000 in
theorem bytes_any (m : Bool) (r o : Int) (a : Option Addr) (n cap : Nat) (w : World) (hn : n ≤ 9223372036854775807) :
    Calls Trym.prog 11 #[.bool m, .int .i64 r, .int .i64 o, .slice a n cap] w fun e w' => SomeBool e ∧ w' = w := by
  by_cases hb : 1048576 < n
  · go_enter Trym.func11, Trym.ntmps11
    go_wp2
    go_ret
    exact ⟨SomeBool.mk, rfl⟩
  · go_enter Trym.func11, Trym.ntmps11
    go_wp2
    go_ret
    exact ⟨SomeBool.mk, rfl⟩

set_option maxHeartbeats 400000 in
theorem state_any (x : Int) (w : World) : Calls Trym.prog 7 #[.int .i64 x] w fun e w' => SomeBool e ∧ w' = w := by
  by_cases h : 0 ≤ x
  · go_enter Trym.func7, Trym.ntmps7
    go_wp2
    all_goals
      go_ret
      exact ⟨SomeBool.mk, rfl⟩
  · have h' : x < 0 := by omega
    go_enter Trym.func7, Trym.ntmps7
    go_wp2
    all_goals
      go_ret
      exact ⟨SomeBool.mk, rfl⟩

/-- is v among the first n? -/
def hasZ (n : Nat) (Z : Nat → Int) (v : Int) : Bool := (List.range n).any fun i => Z i == v
theorem hasZ_yes {n i : Nat} {Z : Nat → Int} {v : Int} (hi : i < n) (h : Z i = v) : hasZ n Z v = true := by
  simp only [hasZ, List.any_eq_true, List.mem_range]
  exact ⟨i, hi, by simp [h]⟩
theorem hasZ_no {n : Nat} {Z : Nat → Int} {v : Int} (h : ∀ i, i < n → Z i ≠ v) : hasZ n Z v = false := by
  simp only [hasZ, List.any_eq_false, List.mem_range]
  intro i hi
  simp [h i hi]

/-- slices.Index answers a place, or -1 -/
def IndexPost (n : Nat) (Z : Nat → Int) (v : Int) (e : Ending) : Prop := ∃ r : Int, e = .returned (.int .i64 r) ∧ decide (0 ≤ r) = hasZ n Z v

set_option maxHeartbeats 400000 in
theorem index_any (a : Option Addr) (n cap : Nat) (Z : Nat → Int) (v : Int) (w : World) (hn : n ≤ 65536) (h : Ints w a n Z) :
    Calls Trym.prog 21 #[.slice a n cap, .int .i64 v] w fun e w' => IndexPost n Z v e ∧ w' = w := by
  go_enter Trym.func21, Trym.ntmps21
  go_wp2
  go_loop [8] (fun i => ∃ k : Nat, k ≤ n ∧ i = .int .i64 k ∧ Hid (∀ j, j < k → Z j ≠ v)) (fun i => n - (intOf i).toNat)
  case atStart => exact ⟨0, Nat.zero_le _, rfl, fun j hj => absurd hj (Nat.not_lt_zero _)⟩
  case round =>
    obtain ⟨k, hk, rfl, hno⟩ := hrel
    by_cases hlt : k < n
    · obtain ⟨b, o, rfl, hc⟩ := h k hlt
      by_cases he : v = Z k
      · have hb : (v == Z k) = true := by rw [beq_iff_eq]; exact he
        have hy : Hid (hasZ n Z v = true) := hide (hasZ_yes hlt he.symm)
        clear he
        go_wp2
        go_ret
        exact ⟨⟨k, rfl, by rw [hy.out]; simp⟩, rfl⟩
      · have hb : (v == Z k) = false := by rw [beq_eq_false_iff_ne]; exact he
        have hno2 : Hid (∀ j, j < k + 1 → Z j ≠ v) := hide (fun j hj => by
          by_cases e : j = k
          · subst e; exact fun e2 => he e2.symm
          · exact hno.out j (by omega))
        clear he hno
        go_wp2
        go_round
        case rel => exact ⟨k + 1, by omega, by go_num, hno2⟩
        case measure => simp [intOf]; omega
    · go_wp2
      go_ret
      have e : k = n := by omega
      subst e
      exact ⟨⟨-1, rfl, by rw [hasZ_no hno.out]; rfl⟩, rfl⟩

set_option maxHeartbeats 400000 in
theorem contains_any (a : Option Addr) (n cap : Nat) (Z : Nat → Int) (v : Int) (w : World) (hn : n ≤ 65536) (h : Ints w a n Z) :
    Calls Trym.prog 18 #[.slice a n cap, .int .i64 v] w fun e w' => e = .returned (.bool (hasZ n Z v)) ∧ w' = w := by
  go_enter Trym.func18, Trym.ntmps18
  go_wp2_with fail
  refine (index_any a n cap Z v w hn h).mono ?_
  rintro e w1 ⟨⟨r, rfl, hr⟩, rfl⟩
  have Hr := hide hr
  clear hr
  go_wp2
  go_ret
  exact ⟨by rw [← Hr.out]; rfl, rfl⟩

/-- a holding behind a pointer -/
structure HoldAt (w : World) (p : Nat) (m q : Bool) (r o : Int) (a : Option Addr) (n c : Nat) : Prop where
  flag : w.cell? ⟨p, 0, none⟩ = some (.bool m)
  pending : w.cell? ⟨p, 1, none⟩ = some (.bool q)
  record : w.cell? ⟨p, 2, none⟩ = some (.int .i64 r)
  object : w.cell? ⟨p, 3, none⟩ = some (.int .i64 o)
  pieces : w.cell? ⟨p, 4, none⟩ = some (.slice a n c)

theorem row_step {W wi : World} {m n : Nat} {S : Nat → Int} (hb : Below W.heap.size W wi) (hr : wi.rowIs W.heap.size 39 n (fun j => if j < m then .int .i64 (S j) else .int .i64 0)) :
    Below W.heap.size W (wi.setCell ⟨W.heap.size, m, none⟩ (.int .i64 (S m))) ∧ (wi.setCell ⟨W.heap.size, m, none⟩ (.int .i64 (S m))).rowIs W.heap.size 39 n (fun j => if j < m + 1 then .int .i64 (S j) else .int .i64 0) := by
  refine ⟨hb.setCell (Nat.le_refl _) _, (hr.set m _).congr (fun j _ => ?_)⟩
  by_cases e : j = m
  · subst e; simp
  · simp only [if_neg e]
    by_cases h : j < m
    · rw [if_pos h, if_pos (by omega)]
    · rw [if_neg h, if_neg (by omega)]

theorem hold_made (w : World) (m q : Bool) (r o : Int) (a : Option Addr) (n c : Nat) : HoldAt (w.alloc (.cells #[.bool m, .bool q, .int .i64 r, .int .i64 o, .slice a n c] 41)) w.heap.size m q r o a n c :=
  ⟨by simp, by simp, by simp, by simp, by simp⟩

/-- ZZnewHolding's post -/
def NewPost (w w' : World) (m q : Bool) (r o : Int) (n : Nat) (Z : Nat → Int) (e : Ending) : Prop := ∃ p a c, e = .returned (.pointer (some ⟨p, 0, none⟩)) ∧ HoldAt w' p m q r o a n c ∧ Ints w' a n Z ∧ Below w.heap.size w w'

set_option maxHeartbeats 400000 in
theorem new_any (m q : Bool) (r o : Int) (a : Option Addr) (n cap : Nat) (Z : Nat → Int) (w : World) (hn : n ≤ 65536) (h : Ints w a n Z) :
    Calls Trym.prog 9 #[.bool m, .bool q, .int .i64 r, .int .i64 o, .slice a n cap] w fun e w' => NewPost w w' m q r o n Z e := by
  have hne := fun W a n c => run_neq_slice_nil_any (P := Trym.prog) W 22 3 a n c 0 0 Trym.underlying22
  cases a with
  | none =>
    have hz : Hid (n = 0) := hide (by
      by_cases e : 0 < n
      · obtain ⟨_, _, e2, _⟩ := h 0 e; cases e2
      · exact Nat.eq_zero_of_not_pos e)
    go_enter Trym.func9, Trym.ntmps9
    go_wp2
    go_ret
    refine ⟨_, none, 0, rfl, ?_, fun i hi => by rw [hz.out] at hi; omega, (Below.refl _ _).alloc (Nat.le_refl _) _⟩
    rw [hz.out]
    exact hold_made _ _ _ _ _ _ _ _
  | some x =>
    have hmk := run_make_row' (P := Trym.prog) 38 39 (.int .i64 0) 8 Trym.underlying38 Trym.info39 rfl .i64 .i64 n (by omega) (by omega)
    go_enter Trym.func9, Trym.ntmps9
    go_wp2
    clear hmk hne
    go_loopw [12] (fun i wr => ∃ k : Nat, k ≤ n ∧ i = .int .i64 k ∧ Below w.heap.size w wr ∧ wr.rowIs w.heap.size 39 n (fun j => if j < k then .int .i64 (Z j) else .int .i64 0)) (fun i _ => n - (intOf i).toNat)
    case atStart => exact ⟨0, Nat.zero_le _, rfl, (Below.refl _ _).alloc (Nat.le_refl _) _, (World.rowIs_made _ _ _ _).congr (fun j _ => by simp)⟩
    case round =>
      obtain ⟨k, hk, rfl, hb, hr⟩ := hrel
      by_cases hlt : k < n
      · obtain ⟨b, oo, e, hc⟩ := h.below hb (Nat.le_refl _) k hlt
        simp at e
        subst e
        have g3 := hr.cell hlt
        have g4 := hr.frozen k
        have hst := row_step hb hr
        go_wp2
        go_roundw
        case rel => exact ⟨k + 1, by omega, by go_num, hst.1, hst.2⟩
        case measure => simp [intOf]; omega
      · have e : k = n := by omega
        subst e
        have hI := Ints.of_row (hr.congr (g := fun j => .int .i64 (Z j)) (fun j hj => if_pos hj))
        go_wp2
        go_ret
        exact ⟨_, _, _, rfl, hold_made _ _ _ _ _ _ _ _, hI.below ((Below.refl _ _).alloc (Nat.le_refl _) _) (Nat.le_refl _), hb.alloc hb.size _⟩
end Go.Proofs.Qxb6614545aMods
