/-
  The views (how the data that the law reads lies in memory) and the leaf functions that only read. Proof text of this seat.
-/
import Derived.Test.Qxb6605911aModsRows
import Derived.WalkKit
import Derived.WalkSpells
import Derived.WalkLawsBesides
import Derived.Deep.QuietTactic
import Derived.BigQuiet
namespace Go.Proofs.Qxb6605911aMods
open Go.RowKit

/-- a row of strings behind a slice's address -/
def Strs (w : World) (a : Option Addr) (n : Nat) (S : Nat → ByteArray) : Prop :=
  ∀ i, i < n → ∃ b o, a = some ⟨b, o, none⟩ ∧ w.cell? ⟨b, o + i, none⟩ = some (.string (S i))

theorem ret_bool {a b : Bool} (h : a = b) : Ending.returned (.bool a) = .returned (.bool b) := by rw [h]

set_option maxHeartbeats 400000 in
theorem same_any (a b : Option Addr) (n c1 c2 : Nat) (S : Nat → ByteArray) (w : World) (hn : n ≤ 65536) (hS : Strs w a n S) (hT : Strs w b n S) :
    Calls Trym.prog 13 #[.slice a n c1, .slice b n c2] w fun e w' => e = .returned (.bool true) ∧ ∃ nq, w' = w.drewN nq := by
  have hne : ((n : Int) != (n : Int)) = false := by simp
  go_enter Trym.func13, Trym.ntmps13
  go_wp2
  go_loopw [5] (fun i wr => ∃ k : Nat, k ≤ n ∧ i = .int .i64 k ∧ ∃ nq, wr = w.drewN nq) (fun i _ => n - (intOf i).toNat)
  case atStart => exact ⟨0, Nat.zero_le _, rfl, 0, rfl⟩
  case round =>
    obtain ⟨k, hk, rfl, nq, rfl⟩ := hrel
    by_cases hlt : k < n
    · obtain ⟨b1, o1, rfl, h1⟩ := hS k hlt
      obtain ⟨b2, o2, rfl, h2⟩ := hT k hlt
      have hi : (k : Int) < n := by omega
      go_wp2
      go_quiet (fail)
      go_wp2
      go_roundw
      case rel => exact ⟨k + 1, by omega, by go_num, _, rfl⟩
      case measure => simp [intOf]; omega
    · go_wp2
      go_ret
      exact ⟨rfl, nq, rfl⟩

/-- what the records hold, index by index -/
structure Recs where
  n : Nat
  K : Nat → ByteArray
  C : Nat → Int
  G : Nat → Bool
  V : Nat → Bool
  L : Nat → Nat
  R : Nat → Nat → ByteArray

/-- record i lies at its five cells -/
structure RecAt (w : World) (b o : Nat) (d : Recs) (i : Nat) (ra : Option Addr) (rc : Nat) : Prop where
  key : w.cell? ⟨b, o + i * 5, none⟩ = some (.string (d.K i))
  checked : w.cell? ⟨b, o + i * 5 + 1, none⟩ = some (.int .i64 (d.C i))
  given : w.cell? ⟨b, o + i * 5 + 2, none⟩ = some (.bool (d.G i))
  verified : w.cell? ⟨b, o + i * 5 + 3, none⟩ = some (.bool (d.V i))
  refs : w.cell? ⟨b, o + i * 5 + 4, none⟩ = some (.slice ra (d.L i) rc)
  strs : Strs w ra (d.L i) (d.R i)

def RecsAt (w : World) (a : Option Addr) (d : Recs) : Prop :=
  ∀ i, i < d.n → ∃ b o ra rc, a = some ⟨b, o, none⟩ ∧ RecAt w b o d i ra rc

/-- it answers some bool -/
def SomeBool (e : Ending) : Prop := ∃ x, e = .returned (.bool x)
theorem SomeBool.mk {x : Bool} : SomeBool (.returned (.bool x)) := ⟨x, rfl⟩

set_option maxHeartbeats 1000000 in
set_option maxRecDepth 100000 in
theorem bytes_any (a : Option Addr) (cap : Nat) (j : Int) (d : Recs) (w : World) (hn : d.n ≤ 9223372036854775807) (hL : ∀ i, i < d.n → d.L i ≤ 9223372036854775807) (h : RecsAt w a d) :
    Calls Trym.prog 5 #[.slice a d.n cap, .int .i64 j] w fun e w' => SomeBool e ∧ w' = w := by
  by_cases hbig : 1048576 < d.n
  · go_enter Trym.func5, Trym.ntmps5
    go_wp2
    go_ret
    exact ⟨SomeBool.mk, rfl⟩
  · go_enter Trym.func5, Trym.ntmps5
    go_wp2
    go_loop [5, 6] (fun z i => ∃ (y : Int) (k : Nat), k ≤ d.n ∧ z = .int .i64 y ∧ i = .int .i64 k) (fun _ i => d.n - (intOf i).toNat)
    case atStart => exact ⟨_, 0, Nat.zero_le _, rfl, rfl⟩
    case round =>
      obtain ⟨y, k, hk, rfl, rfl⟩ := hrel
      by_cases hlt : k < d.n
      · obtain ⟨b, o, ra, rc, rfl, hr⟩ := h k hlt
        have h1 := hr.key
        have h2 := hr.refs
        have h3 := hr.strs
        have h4 := hL k hlt
        clear hr h hL
        go_wp2
        rotate_right
        · go_loop [5, 7] (fun z i => ∃ (y : Int) (m : Nat), m ≤ d.L k ∧ z = .int .i64 y ∧ i = .int .i64 m) (fun _ i => d.L k - (intOf i).toNat)
          case atStart => exact ⟨_, 0, Nat.zero_le _, rfl, rfl⟩
          case round =>
            obtain ⟨y, m, hm, rfl, rfl⟩ := hrel
            by_cases hlm : m < d.L k
            · obtain ⟨b1, o1, rfl, hs⟩ := h3 m hlm
              go_wp2
              · go_ret; exact ⟨SomeBool.mk, rfl⟩
              · go_ret; exact ⟨SomeBool.mk, rfl⟩
              · go_round
                case rel => exact ⟨_, m + 1, by omega, rfl, by go_num⟩
                case measure => simp [intOf]; omega
            · go_wp2
              go_round
              case rel => exact ⟨_, k + 1, by omega, rfl, by go_num⟩
              case measure => simp [intOf]; omega
        all_goals (go_ret; exact ⟨SomeBool.mk, rfl⟩)
      · go_wp2
        go_ret
        exact ⟨SomeBool.mk, rfl⟩
end Go.Proofs.Qxb6605911aMods
