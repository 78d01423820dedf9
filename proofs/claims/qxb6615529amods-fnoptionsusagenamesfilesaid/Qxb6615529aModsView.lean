/-
  The functions that the law calls: Options, zzFlagName, zzQuoted. Proof text of this seat.
-/
import Derived.Test.Qxb6615529aModsPlain
import Derived.WalkKit
import Derived.WalkSpells
import Derived.WalkLawsBesides
import Derived.Deep.QuietTactic
import Derived.BigQuiet
namespace Go.Proofs.Qxb6615529aMods
open Go.RowKit

theorem hide {p : Prop} (h : p) : Hid p := h

/-- the four options lie in block bx; each points at its field of the Outputs in block b -/
structure OptsAt (w : World) (bx b : Nat) : Prop where
  name : ∀ i, i < 4 → w.cell? ⟨bx, i * 4, none⟩ = some (.string (N i))
  usage : ∀ i, i < 4 → w.cell? ⟨bx, i * 4 + 1, none⟩ = some (.string (U i))
  dest : ∀ i, i < 4 → w.cell? ⟨bx, i * 4 + 3, none⟩ = some (.pointer (some ⟨b, i, none⟩))

set_option maxHeartbeats 1000000 in
set_option maxRecDepth 100000 in
theorem options_any (b : Nat) (w : World) :
    Calls Trym.prog 4 #[.pointer (some ⟨b, 0, none⟩)] w fun e w' => ∃ bx, e = .returned (.slice (some ⟨bx, 0, none⟩) 4 4) ∧ OptsAt w' bx b ∧ Below w.heap.size w w' := by
  go_enter Trym.func4, Trym.ntmps4
  go_wp2
  go_region
  go_wp2
  go_ret
  refine ⟨w.heap.size, rfl, ⟨fun i hi => ?_, fun i hi => ?_, fun i hi => ?_⟩, ?_⟩
  · have hf : i = 0 ∨ i = 1 ∨ i = 2 ∨ i = 3 := by omega
    rcases hf with rfl | rfl | rfl | rfl <;> simp [N]
  · have hf : i = 0 ∨ i = 1 ∨ i = 2 ∨ i = 3 := by omega
    rcases hf with rfl | rfl | rfl | rfl <;> simp [U]
  · have hf : i = 0 ∨ i = 1 ∨ i = 2 ∨ i = 3 := by omega
    rcases hf with rfl | rfl | rfl | rfl <;> simp
  · first | exact ((Below.refl _ _).alloc (Nat.le_refl _) _).drew | exact ((Below.refl _ _).drew).alloc (Nat.le_refl _) _

set_option maxHeartbeats 400000 in
theorem flag_any (s : ByteArray) (w : World) (hs : s.size ≤ 9223372036854775807) (h : FlagOK s) :
    Calls Trym.prog 5 #[.string s] w fun e w' => e = .returned (.bool true) ∧ w' = w := by
  obtain ⟨h0, hall⟩ := h
  have hz : ((s.size : Int) == 0) = false := by rw [beq_eq_false_iff_ne]; omega
  have Hall := hide hall
  clear hall
  go_enter Trym.func5, Trym.ntmps5
  go_wp2
  go_loop [3] (fun i => ∃ k : Nat, k ≤ s.size ∧ i = .int .i64 k) (fun i => s.size - (intOf i).toNat)
  case atStart => exact ⟨0, Nat.zero_le _, rfl⟩
  case round =>
    obtain ⟨k, hk, rfl⟩ := hrel
    by_cases hlt : k < s.size
    · obtain ⟨h1, h2⟩ := Hall.out k hlt
      go_wp2
      go_round
      case rel => exact ⟨k + 1, by omega, by go_num⟩
      case measure => simp [intOf]; omega
    · go_wp2
      go_ret
      exact ⟨rfl, rfl⟩

set_option maxHeartbeats 1000000 in
theorem quoted_any (s : ByteArray) (p : Nat) (w : World) (hs : s.size ≤ 9223372036854775807) (h : QuotedAt s p) :
    Calls Trym.prog 6 #[.string s] w fun e w' => e = .returned (.string (s.extract (p + 1) (p + 5))) ∧ w' = w := by
  obtain ⟨h5, hall⟩ := h
  have Hall := hide hall
  clear hall
  go_enter Trym.func6, Trym.ntmps6
  go_wp2
  go_loop [3, 4, 5, 6] (fun f g c i => ∃ (k : Nat), k ≤ s.size ∧ i = .int .i64 k ∧ ((k ≤ p ∧ f = .int .i64 (-1) ∧ g = .int .i64 (-1) ∧ c = .int .i64 0) ∨ (p < k ∧ k ≤ p + 5 ∧ f = .int .i64 p ∧ g = .int .i64 (-1) ∧ c = .int .i64 1) ∨ (p + 5 < k ∧ f = .int .i64 p ∧ g = .int .i64 (p + 5) ∧ c = .int .i64 2))) (fun _ _ _ i => s.size - (intOf i).toNat)
  case atStart => exact ⟨0, Nat.zero_le _, rfl, .inl ⟨Nat.zero_le _, rfl, rfl, rfl⟩⟩
  case round =>
    obtain ⟨k, hk, rfl, hcase⟩ := hrel
    by_cases hlt : k < s.size
    · have hk96 := Hall.out k hlt
      rcases hcase with ⟨hkp, rfl, rfl, rfl⟩ | ⟨hkp, hkq, rfl, rfl, rfl⟩ | ⟨hkq, rfl, rfl, rfl⟩
      · by_cases e : k = p
        · subst e
          have hb : ((s[k].toNat : Int) == 96) = true := by rw [beq_iff_eq]; exact hk96.2 (.inl rfl)
          clear hk96
          go_wp2
          go_round
          case rel => exact ⟨k + 1, by omega, by go_num, .inr (.inl ⟨by omega, by omega, rfl, rfl, rfl⟩)⟩
          case measure => simp [intOf]; omega
        · have hb : ((s[k].toNat : Int) == 96) = false := by rw [beq_eq_false_iff_ne]; intro h6; have := hk96.1 h6; omega
          clear hk96
          go_wp2
          go_round
          case rel => exact ⟨k + 1, by omega, by go_num, .inl ⟨by omega, rfl, rfl, rfl⟩⟩
          case measure => simp [intOf]; omega
      · by_cases e : k = p + 5
        · subst e
          have hb : ((s[p + 5].toNat : Int) == 96) = true := by rw [beq_iff_eq]; exact hk96.2 (.inr rfl)
          clear hk96
          go_wp2
          go_round
          case rel => exact ⟨p + 5 + 1, by omega, by go_num, .inr (.inr ⟨by omega, rfl, by go_num, by go_num⟩)⟩
          case measure => simp [intOf]; omega
        · have hb : ((s[k].toNat : Int) == 96) = false := by rw [beq_eq_false_iff_ne]; intro h6; have := hk96.1 h6; omega
          clear hk96
          go_wp2
          go_round
          case rel => exact ⟨k + 1, by omega, by go_num, .inr (.inl ⟨by omega, by omega, rfl, rfl, rfl⟩)⟩
          case measure => simp [intOf]; omega
      · have hb : ((s[k].toNat : Int) == 96) = false := by rw [beq_eq_false_iff_ne]; intro h6; have := hk96.1 h6; omega
        clear hk96
        go_wp2
        go_round
        case rel => exact ⟨k + 1, by omega, by go_num, .inr (.inr ⟨by omega, rfl, rfl, rfl⟩)⟩
        case measure => simp [intOf]; omega
    · rcases hcase with ⟨hkp, rfl, rfl, rfl⟩ | ⟨hkp, hkq, rfl, rfl, rfl⟩ | ⟨hkq, rfl, rfl, rfl⟩
      · omega
      · omega
      · go_wp2
        go_ret
        exact ⟨rfl, rfl⟩

theorem OptsAt.below {w w' : World} {bx b : Nat} (h : OptsAt w bx b) {B : Nat} (hb : Below B w w') (hB : w.heap.size ≤ B) : OptsAt w' bx b := by
  have k : ∀ (p : Addr) (v : Value), w.cell? p = some v → w'.cell? p = some v := fun p v hc => (hb.cell (by have := World.block_lt_of_cell? _ _ hc; omega)).trans hc
  exact ⟨fun i hi => k _ _ (h.name i hi), fun i hi => k _ _ (h.usage i hi), fun i hi => k _ _ (h.dest i hi)⟩
theorem OptsAt.draw {w : World} {bx b : Nat} (h : OptsAt w bx b) (q : Nat) : OptsAt (w.drewN q) bx b := ⟨h.name, h.usage, h.dest⟩
end Go.Proofs.Qxb6615529aMods
