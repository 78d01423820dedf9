/-
  zzAlikeSizeOK: it only reads; where it answers true there are at most 4096 records and no record has more than 65536 refusals. Proof text of this seat.
-/
import Derived.Test.Qxb6605911aModsView
namespace Go.Proofs.Qxb6605911aMods
open Go.RowKit

def SizePost (d : Recs) (e : Ending) : Prop := ∃ x, e = .returned (.bool x) ∧ (x = true → d.n ≤ 4096 ∧ ∀ i, i < d.n → d.L i ≤ 65536)
theorem SizePost.no {d : Recs} : SizePost d (.returned (.bool false)) := ⟨false, rfl, fun h => by cases h⟩
theorem SizePost.yes {d : Recs} (h : d.n ≤ 4096) (h2 : ∀ i, i < d.n → d.L i ≤ 65536) : SizePost d (.returned (.bool true)) := ⟨true, rfl, fun _ => ⟨h, h2⟩⟩

set_option maxHeartbeats 1000000 in
set_option maxRecDepth 100000 in
theorem size_any (a : Option Addr) (cap : Nat) (d : Recs) (w : World) (hn : d.n ≤ 9223372036854775807) (hL : ∀ i, i < d.n → d.L i ≤ 9223372036854775807) (h : RecsAt w a d) :
    Calls Trym.prog 6 #[.slice a d.n cap] w fun e w' => SizePost d e ∧ ∃ nq, w' = w.drewN nq := by
  by_cases hbig : 4096 < d.n
  · go_enter Trym.func6, Trym.ntmps6
    go_wp2
    go_ret
    exact ⟨SizePost.no, 0, rfl⟩
  · go_enter Trym.func6, Trym.ntmps6
    go_wp2
    go_loopw [3, 4] (fun z i wr => ∃ (y : Int) (k : Nat), k ≤ d.n ∧ z = .int .i64 y ∧ i = .int .i64 k ∧ Hid (∀ i, i < k → d.L i ≤ 65536) ∧ ∃ nq, wr = w.drewN nq) (fun _ i _ => d.n - (intOf i).toNat)
    case atStart => exact ⟨_, 0, Nat.zero_le _, rfl, rfl, fun i hi => absurd hi (Nat.not_lt_zero _), 0, rfl⟩
    case round =>
      obtain ⟨y, k, hk, rfl, rfl, hH, nq, rfl⟩ := hrel
      by_cases hlt : k < d.n
      · obtain ⟨b, o, ra, rc, rfl, hr⟩ := h k hlt
        have h1 := hr.key
        have h2 := hr.refs
        have h3 := hr.strs
        have h4 := hL k hlt
        clear hr h hL
        by_cases hkb : 1048576 < (d.K k).size
        · go_wp2
          go_ret
          exact ⟨SizePost.no, nq, rfl⟩
        by_cases hrb : 65536 < d.L k
        · go_wp2
          go_ret
          exact ⟨SizePost.no, nq, rfl⟩
        have hH' : Hid (∀ i, i < k + 1 → d.L i ≤ 65536) := fun i hi => by
          by_cases e : i = k
          · subst e; omega
          · exact hH.out i (by omega)
        clear hH
        go_wp2
        go_quiet (fail)
        go_wp2
        · go_ret
          exact ⟨SizePost.no, _, rfl⟩
        rename_i nq1 _
        go_loopw [3, 5] (fun z i wr => ∃ (y : Int) (m : Nat), m ≤ d.L k ∧ z = .int .i64 y ∧ i = .int .i64 m ∧ ∃ nq, wr = w.drewN nq) (fun _ i _ => d.L k - (intOf i).toNat)
        case atStart => exact ⟨_, 0, Nat.zero_le _, rfl, rfl, _, rfl⟩
        case round =>
          obtain ⟨y, m, hm, rfl, rfl, nq2, rfl⟩ := hrel
          by_cases hlm : m < d.L k
          · obtain ⟨b1, o1, rfl, hs⟩ := h3 m hlm
            go_wp2
            · go_ret; exact ⟨SizePost.no, _, rfl⟩
            · go_ret; exact ⟨SizePost.no, _, rfl⟩
            · go_roundw
              case rel => exact ⟨_, m + 1, by omega, rfl, by go_num, _, rfl⟩
              case measure => simp [intOf]; omega
          · go_wp2
            go_roundw
            case rel => exact ⟨_, k + 1, by omega, rfl, by go_num, hH', _, rfl⟩
            case measure => simp [intOf]; omega
      · go_wp2
        go_ret
        exact ⟨SizePost.yes (by omega) (fun i hi => hH.out i (by omega)), nq, rfl⟩
end Go.Proofs.Qxb6605911aMods
