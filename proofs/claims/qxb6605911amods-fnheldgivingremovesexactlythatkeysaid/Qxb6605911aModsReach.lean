/-
  zzAlikeReachable: it only reads; where it answers true the records' keys are all different. Proof text of this seat.
-/
import Derived.Test.Qxb6605911aModsView
namespace Go.Proofs.Qxb6605911aMods
open Go.RowKit

def Apart (d : Recs) (k : Nat) : Prop := ∀ i, i < k → ∀ j, i < j → j < d.n → d.K i ≠ d.K j
def ReachPost (d : Recs) (e : Ending) : Prop := ∃ x, e = .returned (.bool x) ∧ (x = true → Apart d d.n)
theorem ReachPost.no {d : Recs} : ReachPost d (.returned (.bool false)) := ⟨false, rfl, fun h => by cases h⟩
theorem ReachPost.yes {d : Recs} (h : Apart d d.n) : ReachPost d (.returned (.bool true)) := ⟨true, rfl, fun _ => h⟩

theorem drewTwice (w : World) (a b : Nat) : ∃ n, (w.drewN a).drewN b = w.drewN n := ⟨a + b, by simp⟩
theorem apart_inner {d : Recs} {k m : Nat} (h : ∀ j, k < j → j < m → d.K k ≠ d.K j) (hx : ((d.K k).toList == (d.K m).toList) = false) : Hid (∀ j, k < j → j < m + 1 → d.K k ≠ d.K j) := by
  intro j h1 h2
  by_cases e : j = m
  · subst e; intro e2; rw [e2] at hx; simp at hx
  · exact h j h1 (by omega)
theorem apart_step {d : Recs} {k : Nat} (h : Apart d k) (h2 : ∀ j, k < j → j < d.n → d.K k ≠ d.K j) : Hid (Apart d (k + 1)) := by
  intro i hi j hij hj
  by_cases e : i = k
  · subst e; exact h2 j hij hj
  · exact h i (by omega) j hij hj

set_option maxHeartbeats 1000000 in
set_option maxRecDepth 100000 in
theorem reach_any (a : Option Addr) (cap : Nat) (d : Recs) (w : World) (hn : d.n ≤ 4096) (hL : ∀ i, i < d.n → d.L i ≤ 65536) (h : RecsAt w a d) :
    Calls Trym.prog 7 #[.slice a d.n cap] w fun e w' => ReachPost d e ∧ ∃ nq, w' = w.drewN nq := by
  go_enter Trym.func7, Trym.ntmps7
  go_wp2
  go_loopw [3] (fun i wr => ∃ (k : Nat), k ≤ d.n ∧ i = .int .i64 k ∧ Hid (Apart d k) ∧ ∃ nq, wr = w.drewN nq) (fun i _ => d.n - (intOf i).toNat)
  case atStart => exact ⟨0, Nat.zero_le _, rfl, fun i hi => absurd hi (Nat.not_lt_zero _), 0, rfl⟩
  case round =>
    obtain ⟨k, hk, rfl, hH, nq, rfl⟩ := hrel
    by_cases hlt : k < d.n
    · obtain ⟨b, o, ra, rc, rfl, hr⟩ := h k hlt
      have HR := hr
      have h1 := hr.key
      have h2 := hr.refs
      have h3 := hr.checked
      have h4 := hr.given
      have h5 := hr.verified
      have h6 := hL k hlt
      have hi : (k : Int) < d.n := by omega
      clear hr hL
      have Hh : Hid (RecsAt w (some ⟨b, o, none⟩) d) := h
      clear h
      go_wp2
      go_quiet (fail)
      go_wp2
      · go_ret; exact ⟨ReachPost.no, by first | exact ⟨_, rfl⟩ | exact drewTwice _ _ _⟩
      · go_ret; exact ⟨ReachPost.no, by first | exact ⟨_, rfl⟩ | exact drewTwice _ _ _⟩
      all_goals
        go_loopw [4] (fun i wr => ∃ m : Nat, k + 1 ≤ m ∧ m ≤ d.n ∧ i = .int .i64 m ∧ Hid (∀ j, k < j → j < m → d.K k ≠ d.K j) ∧ ∃ nq, wr = w.drewN nq) (fun i _ => d.n - (intOf i).toNat)
        case atStart => exact ⟨k + 1, by omega, by omega, by go_num, fun j h1 h2 => by omega, by first | exact ⟨_, rfl⟩ | exact drewTwice _ _ _⟩
        case round =>
          obtain ⟨m, hm1, hm, rfl, hG, nq2, rfl⟩ := hrel
          by_cases hlm : m < d.n
          · obtain ⟨b', o', ra', rc', e, hr'⟩ := Hh.out m hlm
            simp at e
            obtain ⟨rfl, rfl⟩ := e
            have g1 := hr'.key
            have hj : (m : Int) < d.n := by omega
            clear hr' HR
            go_wp2
            go_quiet (fail)
            go_wp2
            · go_ret; exact ⟨ReachPost.no, by first | exact ⟨_, rfl⟩ | exact drewTwice _ _ _⟩
            · have hx : ((d.K k).toList == (d.K m).toList) = false := by assumption
              go_roundw
              case rel =>
                exact ⟨m + 1, by omega, by omega, by go_num, apart_inner hG.out hx, _, rfl⟩
              case measure => simp [intOf]; omega
          · have e : m = d.n := by omega
            subst e
            have hH' := apart_step hH.out hG.out
            clear hH hG
            go_wp2
            go_roundw
            case rel => exact ⟨k + 1, by omega, by go_num, hH', _, rfl⟩
            case measure => simp [intOf]; omega
    · go_wp2
      go_ret
      have e : k = d.n := by omega
      subst e
      exact ⟨ReachPost.yes hH.out, nq, rfl⟩
end Go.Proofs.Qxb6605911aMods
