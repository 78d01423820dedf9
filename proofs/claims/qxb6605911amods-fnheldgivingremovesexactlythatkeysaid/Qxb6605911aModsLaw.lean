/-
  The law's own walk. Proof text of this seat.
-/
import Derived.Test.Qxb6605911aModsPlain
import Derived.Test.Qxb6605911aModsSize
import Derived.Deep.RegionHeld3
namespace Go.Proofs.Qxb6605911aMods
open Go.RowKit

theorem NamesAt.below {w w' : World} {bn bg n : Nat} {d : Recs} {ix : Nat → Nat} (h : NamesAt w bn bg n d ix) {B : Nat} (hb : Below B w w') (hB : w.heap.size ≤ B) : NamesAt w' bn bg n d ix := by
  have k : ∀ (p : Addr) (v : Value), w.cell? p = some v → w'.cell? p = some v := fun p v hc => (hb.cell (by have := World.block_lt_of_cell? _ _ hc; omega)).trans hc
  refine ⟨fun i hi => k _ _ (h.names i hi), fun i hi => ?_⟩
  obtain ⟨x, hx, hs⟩ := h.groups i hi
  exact ⟨x, k _ _ hx, hs.below hb hB⟩

theorem NamesAt.draw {w : World} {bn bg n : Nat} {d : Recs} {ix : Nat → Nat} (h : NamesAt w bn bg n d ix) (q : Nat) : NamesAt (w.drewN q) bn bg n d ix := ⟨h.names, h.groups⟩

theorem NamesAt.setBool {w : World} {bn bg n : Nat} {d : Recs} {ix : Nat → Nat} (h : NamesAt w bn bg n d ix) {p : Addr} {x : Bool} (hp : w.cell? p = some (.bool x)) (v : Value) : NamesAt (w.setCell p v) bn bg n d ix := by
  have k : ∀ (q : Addr) (u : Value), w.cell? q = some u → (∀ y, u ≠ .bool y) → (w.setCell p v).cell? q = some u := fun q u hc hu => by
    rw [World.cell?_setCell_other _ _ _ _ (fun e => by subst e; rw [hp] at hc; simp at hc; exact hu _ hc.symm)]
    exact hc
  refine ⟨fun i hi => k _ _ (h.names i hi) (by simp), fun i hi => ?_⟩
  obtain ⟨y, hy, hs⟩ := h.groups i hi
  refine ⟨y, k _ _ hy (by simp), fun m hm => ?_⟩
  obtain ⟨b, o, e, hc⟩ := hs m hm
  exact ⟨b, o, e, k _ _ hc (by simp)⟩

set_option maxHeartbeats 4000000 in
set_option maxRecDepth 100000 in
theorem law_walk (a : Option Addr) (cap : Nat) (j : Int) (d : Recs) (w : World) (hn0 : d.n ≤ 9223372036854775807) (hL0 : ∀ i, i < d.n → d.L i ≤ 9223372036854775807) (hK : ∀ i, i < d.n → (d.K i).size ≤ maxLen) (h : RecsAt w a d) :
    Calls Trym.prog 3 #[.slice a d.n cap, .int .i64 j] w fun e w' => e = .returned (.bool true) ∧ Below w.heap.size w w' := by
  go_enter Trym.func3, Trym.ntmps3
  go_wp2_with fail
  refine (bytes_any a cap j d w hn0 hL0 h).mono ?_
  rintro e w1 ⟨⟨x, rfl⟩, rfl⟩
  cases x with
  | false =>
    go_wp2
    go_ret
    exact ⟨rfl, Below.refl _ _⟩
  | true =>
  go_wp2_with fail
  refine (size_any a cap d w1 hn0 hL0 h).mono ?_
  rintro e w2 ⟨⟨x, rfl, hx⟩, n1, rfl⟩
  cases x with
  | false =>
    go_wp2
    go_ret
    exact ⟨rfl, below_drewN (Below.refl _ _) _⟩
  | true =>
  obtain ⟨hn, hL⟩ := hx rfl
  clear hx hn0 hL0
  by_cases hj0 : j < 0
  · go_wp2
    go_ret
    exact ⟨rfl, below_drewN (Below.refl _ _) _⟩
  by_cases hj1 : (d.n : Int) ≤ j
  · go_wp2
    go_ret
    exact ⟨rfl, below_drewN (Below.refl _ _) _⟩
  obtain ⟨jn, rfl⟩ := Int.eq_ofNat_of_zero_le (show 0 ≤ j by omega)
  have HL := hide hL
  have HK := hide hK
  clear hL hK
  go_wp2_with fail
  refine (reach_any a cap d _ hn HL.out (h.draw n1)).mono ?_
  rintro e w3 ⟨⟨x, rfl, hx⟩, n2, rfl⟩
  cases x with
  | false =>
    go_wp2
    go_ret
    exact ⟨rfl, by first | exact below_drewN (Below.refl _ _) _ | exact below_drewN (below_drewN (Below.refl _ _) _) _⟩
  | true =>
  have Hap := hide (hx rfl)
  clear hx
  go_wp2_with fail
  refine (copy_any a cap d _ hn HL.out (by first | exact h.draw _ | exact (h.draw _).draw _)).mono ?_
  rintro e w4 ⟨a', c', rfl, hr4, hb4⟩
  replace hb4 : Below w1.heap.size w1 w4 := by first | exact (below_drewN (Below.refl _ _) _).trans hb4 | exact (below_drewN (below_drewN (Below.refl _ _) _) _).trans hb4
  clear h
  go_wp2_with fail
  refine (new_any d w4).mono ?_
  rintro e w5 ⟨rfl, hs5, hb5⟩
  have hA : ∃ A, A = w4.heap.size + 1 := ⟨_, rfl⟩
  obtain ⟨A, hA⟩ := hA
  rw [← hA] at hs5 ⊢
  clear hA
  go_wp2_with fail
  go_loopw [6] (fun i wr => ∃ (k : Nat) (S Rb : Nat → Nat) (kv : Value), k ≤ d.n ∧ i = .int .i64 k ∧ AState wr w4.heap.size A w4.heap.size d d.G k S Rb kv ∧ Below w4.heap.size w4 wr) (fun i _ => d.n - (intOf i).toNat)
  case atStart => exact ⟨0, _, _, _, Nat.zero_le _, rfl, hs5, hb5⟩
  case round =>
    obtain ⟨k, S, Rb, kv, hk, rfl, hst, hbB⟩ := hrel
    by_cases hlt : k < d.n
    · obtain ⟨b, o, ra, rc, rfl, hr0⟩ := hr4 k hlt
      have hr := hr0.below hbB (Nat.le_refl _)
      have HR0 := hide hr0
      have hc1 := hr.key
      have hc2 := hr.checked
      have hc3 := hr.given
      have hc4 := hr.verified
      have hc5 := hr.refs
      have hst1 := hr.strs
      have hLk := HL.out k hlt
      have hKk := HK.out k hlt
      have hi : (k : Int) < d.n := by omega
      clear hr hr0
      go_wp2_with fail
      go_region_held3 (fun W => W.cell? ⟨b, o + k * 5, none⟩ = some (.string (d.K k)) ∧ W.cell? ⟨b, o + k * 5 + 1, none⟩ = some (.int .i64 (d.C k)) ∧ W.cell? ⟨b, o + k * 5 + 2, none⟩ = some (.bool (d.G k)) ∧ W.cell? ⟨b, o + k * 5 + 3, none⟩ = some (.bool (d.V k)) ∧ W.cell? ⟨b, o + k * 5 + 4, none⟩ = some (.slice ra (d.L k) rc)) (go_keep) ((go_at_call 10; refine (put_any w4.heap.size A w4.heap.size d k S Rb kv ra rc _ hlt hn hLk hKk ?_ ?_).mono ?_; (exact hst1); (exact hst.keep (fun _ _ => rfl)); (rintro e w' ⟨rfl, ⟨S', Rb', kv', hst'⟩, hb'⟩; have hr' := HR0.out.below (hbB.drew.trans hb') (Nat.le_refl _); have ck1 := hr'.key; have ck2 := hr'.checked; have ck3 := hr'.given; have ck4 := hr'.verified; have ck5 := hr'.refs; clear hr')))
      clear ck1 ck2 ck3 ck4 ck5 hc1 hc2 hc3 hc4 hc5
      go_wp2
      go_roundw
      case rel => exact ⟨k + 1, S', Rb', kv', by omega, by go_num, hst', hbB.drew.trans hb'⟩
      case measure => simp [intOf]; omega
    · have e : k = d.n := by omega
      subst e
      have hr6 := hr4.below hbB (Nat.le_refl _)
      clear hs5 hb5
      go_wp2_with fail
      refine (names_any _ A _ d d.G S Rb kv wr hn HL.out Hap.out HK.out hst).mono ?_
      rintro e w6 ⟨bn1, bg1, rfl, hN1, hb6⟩
      have hst6 := hst.keep (fun b hb => hb6.block b hb)
      have hr7 := hr6.below hb6 (Nat.le_refl _)
      obtain ⟨b, o, ra, rc, rfl, hrj⟩ := hr7 jn (by omega)
      have hkj := hrj.key
      have hij : (jn : Int) < d.n := by omega
      go_wp2_with fail
      refine (given_any _ A _ d d.G S Rb kv jn w6 (by omega) Hap.out HK.out hst6).mono ?_
      rintro e w7 ⟨rfl, hst7, hb7, ew7⟩
      have hN17 : NamesAt w7 bn1 bg1 (kept d d.G d.n).length d (ixOf (kept d d.G d.n)) := by rw [ew7]; exact hN1.setBool ((hst6.recS jn (by omega)).cell (i := 2) (by omega)) _
      have hbw7 := (hbB.trans (hb6.mono hbB.size)).trans hb7
      clear ew7 hkj hrj hr7 hr6 hN1 hst6 hst hbB hb6 hb7
      go_wp2_with fail
      refine (names_any _ A _ d (setB d.G jn) S Rb kv w7 hn HL.out Hap.out HK.out hst7).mono ?_
      rintro e w8 ⟨bn2, bg2, rfl, hN2, hb8⟩
      have hN1 := hN17.below hb8 (Nat.le_refl _)
      have hbw8 := hbw7.trans (hb8.mono hbw7.size)
      have hr8 := hr4.below hbw8 (Nat.le_refl _)
      have hbel : Below w1.heap.size w1 w8 := hb4.trans (hbw8.mono hb4.size)
      clear hN17 hbw7 hb8 hbw8 hr4 hst7 hb4
      go_wp2_with fail
      go_loop [11, 12, 13, 14] (fun c s p i => ∃ (k : Nat) (x y : Nat) (q : Int), k ≤ d.n ∧ c = .int .i64 x ∧ s = .int .i64 y ∧ p = .int .i64 q ∧ i = .int .i64 k ∧ Hid (x = (kept d d.G k).length) ∧ Hid (y = sumL d (kept d d.G k)) ∧ Hid (q = posTo d d.G jn k)) (fun _ _ _ i => d.n - (intOf i).toNat)
      case atStart => exact ⟨0, 0, 0, -1, Nat.zero_le _, rfl, rfl, rfl, rfl, rfl, rfl, (posTo_zero _ _ _).symm⟩
      case round =>
        obtain ⟨k, x, y, q, hk, rfl, rfl, rfl, rfl, hx, hy, hq⟩ := hrel
        by_cases hlt : k < d.n
        · obtain ⟨b', o', ra', rc', e, hrk⟩ := hr8 k hlt
          simp at e
          obtain ⟨rfl, rfl⟩ := e
          have c1 := hrk.given
          have c2 := hrk.refs
          have hLk := HL.out k hlt
          have hxb : x ≤ k := by rw [hx.out]; exact kept_le _ _ _
          have hyb : y ≤ 268435456 := by rw [hy.out]; exact kept_sum_le hk hn HL.out
          cases hG : d.G k with
          | true =>
            rw [hG] at c1
            have hno : isKept d d.G k = false := by simp [isKept, hG]
            have f1 : Hid (x = (kept d d.G (k + 1)).length) := hide (by rw [kept_no hno]; exact hx.out)
            have f2 : Hid (y = sumL d (kept d d.G (k + 1))) := hide (by rw [kept_no hno]; exact hy.out)
            have f3 : Hid (q = posTo d d.G jn (k + 1)) := hide (by rw [posTo_skip hno]; exact hq.out)
            clear hG hno hrk
            go_wp2
            go_round
            case rel => exact ⟨k + 1, x, y, q, by omega, rfl, rfl, rfl, by go_num, f1, f2, f3⟩
            case measure => simp [intOf]; omega
          | false =>
            rw [hG] at c1
            by_cases hpos : 0 < d.L k
            · have hyes : isKept d d.G k = true := by simp [isKept, hG, hpos]
              have f1 : Hid (x + 1 = (kept d d.G (k + 1)).length) := hide (by rw [kept_yes hyes, hx.out]; simp)
              have f2 : Hid (y + d.L k = sumL d (kept d d.G (k + 1))) := hide (by rw [kept_yes hyes, sumL_snoc, hy.out])
              have hlz : ((d.L k : Int) == 0) = false := by rw [beq_eq_false_iff_ne]; omega
              by_cases hkj : k = jn
              · have f3 : Hid ((x : Int) = posTo d d.G jn (k + 1)) := hide (by rw [← hkj, posTo_hit hyes, hx.out])
                have hkb : ((k : Int) == (jn : Int)) = true := by rw [beq_iff_eq]; omega
                clear hG hyes hrk hkj
                go_wp2
                go_round
                case rel => exact ⟨k + 1, x + 1, y + d.L k, x, by omega, by go_num, by go_num, rfl, by go_num, f1, f2, f3⟩
                case measure => simp [intOf]; omega
              · have f3 : Hid (q = posTo d d.G jn (k + 1)) := hide (by rw [posTo_other hkj]; exact hq.out)
                have hkb : ((k : Int) == (jn : Int)) = false := by rw [beq_eq_false_iff_ne]; omega
                clear hG hyes hrk hkj
                go_wp2
                go_round
                case rel => exact ⟨k + 1, x + 1, y + d.L k, q, by omega, by go_num, by go_num, rfl, by go_num, f1, f2, f3⟩
                case measure => simp [intOf]; omega
            · have hno : isKept d d.G k = false := by simp [isKept, hpos]
              have f1 : Hid (x = (kept d d.G (k + 1)).length) := hide (by rw [kept_no hno]; exact hx.out)
              have f2 : Hid (y = sumL d (kept d d.G (k + 1))) := hide (by rw [kept_no hno]; exact hy.out)
              have f3 : Hid (q = posTo d d.G jn (k + 1)) := hide (by rw [posTo_skip hno]; exact hq.out)
              have hlz : ((d.L k : Int) == 0) = true := by rw [beq_iff_eq]; omega
              clear hG hno hrk
              go_wp2
              go_round
              case rel => exact ⟨k + 1, x, y, q, by omega, rfl, rfl, rfl, by go_num, f1, f2, f3⟩
              case measure => simp [intOf]; omega
        · have e : k = d.n := by omega
          subst e
          have hq' : Hid (q = posOf d d.G jn) := hide (by rw [hq.out]; exact posTo_end (by omega))
          have hxb : x ≤ d.n := by rw [hx.out]; exact kept_le _ _ _
          have hyb : y ≤ 268435456 := by rw [hy.out]; exact kept_sum_le (Nat.le_refl _) hn HL.out
          rw [← hx.out] at hN1 ⊢
          clear hq hr8
          have hne : ((x : Int) != (x : Int)) = false := by simp
          go_wp2
          obtain ⟨x2, hx2⟩ : ∃ x2, x2 = (kept d (setB d.G jn) d.n).length := ⟨_, rfl⟩
          have hkix := kept_ix d d.G d.n
          rw [← hx.out] at hkix
          rw [← hx2] at hN2 ⊢
          have Hkix := hide hkix
          have Hx2 := hide hx2
          clear hkix hx2
          go_loop [15, 16] (fun s i => ∃ (k z : Nat), k ≤ x ∧ s = .int .i64 z ∧ i = .int .i64 k ∧ Hid (z = sumL d ((kept d d.G d.n).take k))) (fun _ i => x - (intOf i).toNat)
          case atStart => exact ⟨0, 0, Nat.zero_le _, rfl, rfl, rfl⟩
          case round =>
            obtain ⟨k, z, hk, rfl, rfl, hz⟩ := hrel
            by_cases hlt : k < x
            · obtain ⟨gx, hgx, _⟩ := hN1.groups k hlt
              obtain ⟨hxn, hxk⟩ := Hkix.out k hlt
              have hL1 := HL.out _ hxn
              have hpos : 0 < d.L (ixOf (kept d d.G d.n) k) := by simp [isKept] at hxk; exact hxk.2
              have hstep : z + d.L (ixOf (kept d d.G d.n) k) = sumL d ((kept d d.G d.n).take (k + 1)) := by rw [take_sum (by rw [← hx.out]; exact hlt), hz.out]
              have hzb : z + d.L (ixOf (kept d d.G d.n) k) ≤ 268435456 := by
                rw [hstep]
                exact Nat.le_trans (take_le _ _) (by rw [← hy.out]; exact hyb)
              have Hstep := hide hstep
              clear hstep hxk
              generalize ixOf (kept d d.G d.n) k = ik at *
              go_wp2
              go_round
              case rel => exact ⟨k + 1, z + d.L ik, by omega, by go_num, by go_num, Hstep⟩
              case measure => simp [intOf]; omega
            · have e : k = x := by omega
              subst e
              have ez : z = y := by rw [hz.out, hy.out, List.take_of_length_le (by rw [← hx.out]; exact Nat.le_refl _)]
              subst ez
              have hne2 : ((z : Int) != (z : Int)) = false := by simp
              have hne3 : ((x2 : Int) != (x2 : Int)) = false := by simp
              clear Hkix hz hne hk
              have hk2 : ∀ m, m < k → (m : Int) ≠ q → k2Of d d.G jn m < x2 ∧ ixOf (kept d (setB d.G jn) d.n) (k2Of d d.G jn m) = ixOf (kept d d.G d.n) m := fun m hm hp => by
                rw [Hx2.out]
                exact k2_ok (by omega) (by rw [← hx.out]; exact hm) (by rw [← hq'.out]; exact hp)
              have Hk2 := hide hk2
              clear hk2
              have hcase : (0 ≤ q ∧ ((x2 : Int) != (k : Int) - 1) = false) ∨ (q < 0 ∧ ((x2 : Int) != (k : Int)) = false) := by
                cases hkj : isKept d d.G jn with
                | true =>
                  have hq1 : q = ((kept d d.G jn).length : Int) := by rw [hq'.out]; simp [posOf, hkj]
                  have hp := pos_lt (n := d.n) (by omega) hkj
                  rw [← Hx2.out, ← hx.out] at hp
                  refine .inl ⟨by omega, ?_⟩
                  rw [bne_eq_false_iff_eq]
                  omega
                | false =>
                  have hq1 : q = -1 := by rw [hq'.out]; simp [posOf, hkj]
                  have hp := pos_no (n := d.n) (by omega) hkj
                  have e2 : x2 = k := by rw [Hx2.out, hx.out, hp]
                  refine .inr ⟨by omega, ?_⟩
                  rw [bne_eq_false_iff_eq]
                  omega
              have hxb2 : x2 ≤ 4096 := by rw [Hx2.out]; exact Nat.le_trans (kept_le _ _ _) hn
              have Hhx := hide hx
              have Hkix := hide (kept_ix d d.G d.n)
              rcases hcase with ⟨hq0, hwl⟩ | ⟨hq0, hwl⟩
              all_goals
                go_wp2
                go_loopw [18, 19] (fun s i wr => ∃ (m u : Nat), m ≤ k ∧ u ≤ m ∧ s = .int .i64 u ∧ i = .int .i64 m ∧ Hid (u = k2Of d d.G jn m) ∧ NamesAt wr bn1 bg1 k d (ixOf (kept d d.G d.n)) ∧ NamesAt wr bn2 bg2 x2 d (ixOf (kept d (setB d.G jn) d.n)) ∧ Below w1.heap.size w1 wr) (fun _ i _ => k - (intOf i).toNat)
                case atStart => exact ⟨0, 0, Nat.zero_le _, Nat.le_refl _, rfl, rfl, hide (by have := k2_le d d.G jn 0; omega), hN1, hN2, hbel⟩
                case round =>
                  obtain ⟨m, u, hm, hum, rfl, rfl, hu, hM1, hM2, hbr⟩ := hrel
                  by_cases hlm : m < k
                  · by_cases hmq : (m : Int) = q
                    · have hb : ((m : Int) == q) = true := by rw [beq_iff_eq]; exact hmq
                      have hu2 : Hid (u = k2Of d d.G jn (m + 1)) := hide (by rw [k2_skip (by rw [← hq'.out]; exact hmq)]; exact hu.out)
                      clear hmq
                      go_wp2
                      go_roundw
                      case rel => exact ⟨m + 1, u, by omega, by omega, rfl, by go_num, hu2, hM1, hM2, hbr⟩
                      case measure => simp [intOf]; omega
                    · have hb : ((m : Int) == q) = false := by rw [beq_eq_false_iff_ne]; exact hmq
                      have hu2 : Hid (u + 1 = k2Of d d.G jn (m + 1)) := hide (by rw [k2_step (by rw [← hq'.out]; exact hmq), hu.out])
                      obtain ⟨hu3, hix⟩ := Hk2.out m hlm hmq
                      rw [← hu.out] at hu3 hix
                      obtain ⟨hxn, _⟩ := Hkix.out m (by rw [← Hhx.out]; exact hlm)
                      have hLm := HL.out _ hxn
                      have n2 := hM2.names u hu3
                      obtain ⟨g2, hg2, hs2⟩ := hM2.groups u hu3
                      rw [hix] at n2 hg2 hs2
                      have n1 := hM1.names m hlm
                      obtain ⟨g1, hg1, hs1⟩ := hM1.groups m hlm
                      have hi1 : (m : Int) < k := by omega
                      have hi2 : (u : Int) < x2 := by omega
                      clear hmq hix hxn
                      have HM1 := hide hM1
                      have HM2 := hide hM2
                      clear hM1 hM2
                      generalize ixOf (kept d d.G d.n) m = im at *
                      go_wp2
                      go_quiet ((go_at_call 13; exact Calls.quiet_of (same_any _ _ (d.L im - 1) _ _ (fun j => d.R im (j + 1)) _ (by omega) (hs2.draw _) (hs1.draw _))))
                      go_wp2
                      go_roundw
                      case rel => exact ⟨m + 1, u + 1, by omega, by omega, by go_num, by go_num, hu2, HM1.out.draw _, HM2.out.draw _, below_drewN hbr _⟩
                      case measure => simp [intOf]; omega
                  · go_wp2
                    go_ret
                    exact ⟨rfl, hbr⟩
end Go.Proofs.Qxb6605911aMods
