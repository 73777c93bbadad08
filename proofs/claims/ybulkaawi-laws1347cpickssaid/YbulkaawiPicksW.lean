/-
  The walk of LawS1347CPicks.
-/
import Derived.Test.YbulkaawiPicksT
import Derived.Deep.RegionWith
namespace Go.Proofs.Ybulkaawi
open Go.RowKit

set_option maxRecDepth 100000 in
set_option maxHeartbeats 1000000 in
theorem picks_any (seed len cap b off klen kcap kb koff r h' l' : Nat) (cv kv : Option Addr) (zs : List Int) (ks : List Bool) (w : World) (hseed : seed < 18446744073709551616) (hz : zs.length = len) (hlen : len ≤ 1024) (hkl : klen ≤ 1024)
    (hc : Hid (ArgAt w cv len b off zs)) (hkc : Hid (∀ j, j < klen → kv = some ⟨kb, koff, none⟩ ∧ w.cell? ⟨kb, koff + j, none⟩ = some (.bool (ks.getD j false))))
    (HI : Hid ((E zs (kp klen ks) len).length ≠ 0 → r < (E zs (kp klen ks) len).length ∧ (h' < 18446744073709551616 ∧ l' < 18446744073709551616) ∧ ∀ w rr pc, RngAt w rr pc seed seed →
      Calls Yba.prog 9 #[.pointer (some ⟨rr, 0, none⟩), .int .i64 (E zs (kp klen ks) len).length] w fun e w' => e = .returned (.int .i64 r) ∧ Rolled pc w w' h' l')) :
    Calls Yba.prog 4 #[.int .u64 seed, .slice cv len cap, .slice kv klen kcap] w fun e w' => e = .returned (.bool true) ∧ Below w.heap.size w w' := by
  obtain ⟨i0, hi, hz0, hz1, hz2⟩ := info_parts info3
  have hmk := make_ints len hlen
  have hmf : ∀ (fn : Fn) (first cap : Array Value) (w : World), (Instr.makeFunc fn first cap).run Yba.prog w = .ok (.func fn first cap) w := fun _ _ _ _ => rfl
  obtain ⟨w1, hcopy, hC1, hs1, hB1⟩ := copy_is w #[.slice kv klen kcap] len cap b off cv zs hz hc.out
  have HL0 : Hid (L1 (w.heap.size + 1 + 1) zs (kp klen ks) w1 0 (.slice none 0 0) w1) := L1.start _ _ _ _ hs1
  have HB1 := hide' hB1
  have HC1 := hide' hC1
  have HS1 := hide' hs1
  clear hC1 hs1 hB1
  go_enter Yba.func4, Yba.ntmps4
  go_wp2_with fail
  clear hcopy
  go_loopw [8, 37] (fun v i wr => ∃ k : Nat, k ≤ len ∧ i = .int .i64 k ∧ Hid (L1 (w.heap.size + 1 + 1) zs (kp klen ks) w1 k v wr)) (fun _ i _ => len - (intOf i).toNat)
  case atStart => exact ⟨0, Nat.zero_le _, rfl, HL0⟩
  case round =>
    clear HL0
    obtain ⟨k, hk, rfl, hA⟩ := hrel
    by_cases hlt : k < len
    · obtain ⟨hcr, hkr⟩ := came hc.out hkc.out HB1.out (Nat.le_succ _) hA.out.2.1
      obtain ⟨rfl, hcx⟩ := hcr k hlt
      have hEl := E_le zs (kp klen ks) k
      obtain ⟨x, HX⟩ : ∃ x, Hid (zs.getD k 0 = x) := ⟨_, rfl⟩
      rw [HX.out] at hcx
      by_cases hkk : k < klen
      · obtain ⟨rfl, hkx⟩ := hkr.2 k hkk
        have hkb := hkr.1
        clear hcr hkr
        cases hkv : ks.getD k false with
        | true =>
          rw [hkv] at hkx
          have HP := hide' (kp_in hkk hkv)
          have hw2 : w.heap.size + 1 + 1 ≤ wr.heap.size := hA.out.2.2
          clear hkv
          go_wp2_with (at_builtin; refine wpList_append_own _ rfl (.tmp 52) (.tmp 54) 96 rfl (w.heap.size + 1 + 1) 3 i0 (.int .i64 0) 1 8 Yba.underlying96 hi hz0 hz1 hz2 rfl (by decide) _ _ _ rfl (hA.out.1.alloc _) ⟨wr.heap.size, 0, none⟩ 1 1 [.int .i64 x] rfl rfl (cell_one_new _ _ _) (ints_oneCell _ [x]) (by unfold maxLen; omega) (by omega) (by simp; omega) ?_)
          intro v' w2 hown hgrow _
          have HA' : Hid (L1 (w.heap.size + 1 + 1) zs (kp klen ks) w1 (k + 1) v' w2) := hA.out.yes HP.out HX.out hown hgrow
          clear hown hgrow hA hcx hkx hkb hw2
          go_wp2_with fail
          go_roundw
          case rel => exact ⟨k + 1, by omega, by go_num, HA'⟩
          case measure => simp [intOf]; omega
        | false =>
          rw [hkv] at hkx
          have HA' : Hid (L1 (w.heap.size + 1 + 1) zs (kp klen ks) w1 (k + 1) _ wr) := hA.out.no (kp_in hkk hkv)
          clear hkv hA
          go_wp2_with fail
          go_roundw
          case rel => exact ⟨k + 1, by omega, by go_num, HA'⟩
          case measure => simp [intOf]; omega
      · have hkb := hkr.1
        have HA' : Hid (L1 (w.heap.size + 1 + 1) zs (kp klen ks) w1 (k + 1) _ wr) := hA.out.no (kp_out hkk)
        clear hcr hkr hA
        go_wp2_with fail
        go_roundw
        case rel => exact ⟨k + 1, by omega, by go_num, HA'⟩
        case measure => simp [intOf]; omega
    · obtain rfl : k = len := by omega
      obtain ⟨hcr, hkr⟩ := came hc.out hkc.out HB1.out (Nat.le_succ _) hA.out.2.1
      obtain ⟨ga, ecap, g, rfl, hrow⟩ := row_of_owns rfl hA.out.1
      have HRow := hide' hrow
      have HArg := hide' hcr
      have HKeep := hide' hkr
      have HB2 := hide' hA.out.2.1
      have HW2 := hide' hA.out.2.2
      obtain ⟨W2, hW2, hz2', hap, hC2, hl2, hk2, hs2, hr2, hold2, ho2⟩ := stage2 (seed := seed) HC1.out HB2.out HW2.out hkc.out hkr
      have HNew : Hid (Calls Yba.prog 7 #[.int .u64 seed] (withBoxes wr) fun e w' => e = .returned (.pointer (some ⟨wr.heap.size + 1 + 1 + 1 + 1, 0, none⟩)) ∧ w' = W2) := by
        unfold Hid
        rw [hW2]
        exact new_boxes seed wr
      have HAm := hide' (among_any (wr.heap.size + 5) (wr.heap.size + 1 + 1 + 1 + 1) (wr.heap.size + 1 + 1 + 1) (wr.heap.size + 1 + 1) (w.heap.size + 1) wr.heap.size (wr.heap.size + 1) w.heap.size k klen kcap kb koff r seed seed h' l' kv ks zs W2 hz hlen hz2' hap hC2 hl2 hk2 hs2 hr2 (fun h => (HI.out h).1) (fun h w => (HI.out h).2.2 w _ _))
      have HO2 := hide' (And.intro hold2 ho2)
      have HZ2 := hide' hz2'
      have HSC2 := hide' hs2
      clear hA hcr hkr hrow hW2 hz2' hap hC2 hl2 hk2 hs2 hr2 hold2 ho2
      go_wp2_with fail
      refine (HNew.out).mono ?_
      rintro e w' ⟨rfl, rfl⟩
      clear HNew
      go_wp2_with fail
      refine (HAm.out).mono ?_
      clear HAm
      rintro e w3 (⟨hm, rfl, hd⟩ | ⟨hm, rfl, hd⟩)
      case' inl =>
        have hm0 : ¬ (0 < ((E zs (kp klen ks) k).length : Int)) := by omega
        obtain ⟨gl, lcap, la, hT⟩ := tail_of hc.out hz HB1.out HB2.out HW2.out HRow.out HO2.out HZ2.out HSC2.out hd
        have HT := hide' hT
        clear hT hd hm HRow HArg HKeep HB2 HW2 HO2 HZ2 HSC2
        go_wp2_with fail
        refine (new_any seed w3).mono ?_
        rintro e w4 ⟨rfl, rfl⟩
        have HU : Hid (Tail1 w k b off (E zs (kp klen ks) k).length g (w.heap.size + 1) wr.heap.size (wr.heap.size + 1 + 1 + 1 + 1) (w3.heap.size + 1 + 1) cv ga zs (E zs (kp klen ks) k) (kp klen ks) (withNew w3 seed)) :=
          ⟨gl, lcap, la, _, _, _, _, seed, seed, hseed, HT.out _ _ _ (withNew_below w3 seed) (gen_new w3 seed)⟩
        clear HT
        generalize withNew w3 seed = w5 at HU ⊢
        have hlg : ∃ la lcap, w5.cell? ⟨wr.heap.size, 0, none⟩ = some (.slice la k lcap) := by
          obtain ⟨gl, lcap, la, _, _, _, _, _, _, _, h⟩ := HU.out
          exact ⟨la, lcap, h.2.2.2.1⟩
        obtain ⟨la, lcap, hlg⟩ := hlg
        go_wp2_with fail
      case' inr =>
        have hm0 : 0 < ((E zs (kp klen ks) k).length : Int) := by omega
        have HM := hide' hm
        generalize hpv : (E zs (kp klen ks) k).getD r 0 = pv
        have HPV := hide' hpv
        obtain ⟨gl, lcap, la, hT⟩ := tail_of hc.out hz HB1.out HB2.out HW2.out HRow.out HO2.out HZ2.out HSC2.out hd
        have HT := hide' hT
        clear hT hd hm hpv HRow HArg HKeep HB2 HW2 HO2 HZ2 HSC2
        go_wp2_with fail
        refine (new_any seed w3).mono ?_
        rintro e w4 ⟨rfl, rfl⟩
        have hsc4 := withNew_sched w3 seed
        have HIN := hide' ((HI.out HM.out).2.2 _ _ _ (withNew_rng w3 seed))
        have HG4 := hide' (gen_new w3 seed)
        have HW4 := hide' (withNew_below w3 seed)
        generalize withNew w3 seed = w4 at hsc4 HIN HG4 HW4 ⊢
        go_wp2_with fail
        refine (HIN.out).mono ?_
        rintro e w5 ⟨rfl, hroll⟩
        have HU : Hid (Tail1 w k b off (E zs (kp klen ks) k).length g (w.heap.size + 1) wr.heap.size (wr.heap.size + 1 + 1 + 1 + 1) (w3.heap.size + 1 + 1) cv ga zs (E zs (kp klen ks) k) (kp klen ks) w5) :=
          ⟨gl, lcap, la, _, _, _, _, h', l', (HI.out HM.out).2.1.2, HT.out _ _ _ (HW4.out.trans (below_roll (Nat.le_refl _) hroll)) (HG4.out.roll (by omega) hroll)⟩
        clear HT hsc4 HIN HG4 HW4 hroll
        have hlg : (∃ la lcap, w5.cell? ⟨wr.heap.size, 0, none⟩ = some (.slice la k lcap)) ∧ ga = some ⟨g, 0, none⟩ ∧ w5.cell? ⟨g, r, none⟩ = some (.int .i64 pv) := by
          rw [← HPV.out]
          obtain ⟨gl, lcap, la, _, _, _, _, _, _, _, h⟩ := HU.out
          exact ⟨⟨la, lcap, h.2.2.2.1⟩, (h.2.1 HM.out).1, (h.2.1 HM.out).2.2.2 r (HI.out HM.out).1⟩
        obtain ⟨⟨la, lcap, hlg⟩, rfl, hgr⟩ := hlg
        have hrlt : r < (E zs (kp klen ks) k).length := (HI.out HM.out).1
        go_wp2_with fail
      case' inr => clear hgr hrlt
      all_goals
        clear hlg hm0
        generalize wr.heap.size = n1 at HU ⊢
        generalize w3.heap.size = n3 at HU ⊢
        obtain ⟨gl, lcap, la, rr, pc, rr', pc', hi, lo, hlo, hT⟩ := HU.out
        have HT := hide' hT
        clear hT HU
        go_loopw [89] (fun i wl => ∃ j : Nat, j ≤ k ∧ i = .int .i64 j ∧ Hid (Tail w k b off (E zs (kp klen ks) k).length g gl lcap (w.heap.size + 1) n1 (n1 + 1 + 1 + 1 + 1) rr pc (n3 + 1 + 1) rr' pc' hi lo hi lo cv _ la zs (E zs (kp klen ks) k) (kp klen ks) wl)) (fun i _ => k - (intOf i).toNat)
        case atStart => exact ⟨0, Nat.zero_le _, rfl, HT⟩
        case round =>
          clear HT
          obtain ⟨j, hj, rfl, HT⟩ := hrel
          by_cases hlt : j < k
          · obtain ⟨rfl, hcx⟩ := HT.out.1 j hlt
            have hlg := HT.out.2.2.2.1
            obtain ⟨rfl, _, _, hlc⟩ := HT.out.2.2.2.2.1 (by omega)
            have hlx := hlc j hlt
            clear hlc
            generalize zs.getD j 0 = x at hcx hlx
            go_wp2_with fail
            go_quiet (fail)
            go_wp2_with fail
            go_roundw
            case rel => exact ⟨j + 1, by omega, by go_num, HT.out.drewN _⟩
            case measure => simp [intOf]; omega
          · obtain rfl : k = j := by omega
            go_wp2_with fail
            go_loopw [104] (fun i wl => ∃ j : Nat, j ≤ (E zs (kp klen ks) k).length ∧ i = .int .i64 j ∧ Hid (Tail w k b off (E zs (kp klen ks) k).length g gl lcap (w.heap.size + 1) n1 (n1 + 1 + 1 + 1 + 1) rr pc (n3 + 1 + 1) rr' pc' hi lo hi lo cv _ la zs (E zs (kp klen ks) k) (kp klen ks) wl)) (fun i _ => (E zs (kp klen ks) k).length - (intOf i).toNat)
            case atStart => exact ⟨0, Nat.zero_le _, rfl, HT⟩
            case round =>
              clear HT
              obtain ⟨j, hj, rfl, HT⟩ := hrel
              have hEk := E_le zs (kp klen ks) k
              by_cases hlt : j < (E zs (kp klen ks) k).length
              · obtain ⟨hga, _, _, hlc⟩ := HT.out.2.1 (by omega)
                try subst hga
                have hlx := hlc j hlt
                have hcx := pick_cell hz HT.out.2.2.1 hlt
                clear hlc
                generalize (E zs (kp klen ks) k).getD j 0 = x at hcx hlx
                go_wp2_with fail
                go_quiet (fail)
                go_wp2_with fail
                go_roundw
                case rel => exact ⟨j + 1, by omega, by go_num, HT.out.drewN _⟩
                case measure => simp [intOf]; omega
              · obtain rfl : (E zs (kp klen ks) k).length = j := by omega
                go_wp2_with fail
                go_loopw [20] (fun i wl => ∃ j : Nat, ((E zs (kp klen ks) k).length ≤ j ∧ j ≤ k) ∧ i = .int .i64 j ∧ Hid (Tail w k b off (E zs (kp klen ks) k).length g gl lcap (w.heap.size + 1) n1 (n1 + 1 + 1 + 1 + 1) rr pc (n3 + 1 + 1) rr' pc' hi lo hi lo cv _ la zs (E zs (kp klen ks) k) (kp klen ks) wl)) (fun i _ => k - (intOf i).toNat)
                case atStart => exact ⟨_, ⟨Nat.le_refl _, hEk⟩, rfl, HT⟩
                case round =>
                  clear HT
                  obtain ⟨j, ⟨hj1, hj2⟩, rfl, HT⟩ := hrel
                  by_cases hlt4 : j < k
                  · obtain ⟨rfl, hlx⟩ := HT.out.1 j hlt4
                    have hcx := rest_cell hz HT.out.2.2.1 (by omega) hlt4
                    generalize zs.getD j 0 = x at hcx hlx
                    go_wp2_with fail
                    go_quiet (fail)
                    go_wp2_with fail
                    go_roundw
                    case rel => exact ⟨j + 1, ⟨by omega, by omega⟩, by go_num, HT.out.drewN _⟩
                    case measure => simp [intOf]; omega
                  · obtain rfl : k = j := by omega
                    go_wp2_with fail
                    obtain ⟨_, _, _, _, _, ⟨hg1, hr1⟩, hG2, hN, hP, hB⟩ := HT.out
                    have HR1 := hide' hr1
                    have hg2 := hG2.1
                    have HG2 := hide' hG2
                    have HN := hide' hN
                    have HP := hide' hP
                    have HBw := hide' hB
                    clear HT hr1 hG2 hN hP hB hz hj1 hj2 hlt4 hj hlt hEk hmk hkl hlen
                    go_region_with (first
                      | (go_at_call_of 10 rr
                         refine (draw_any rr pc hi lo hlo _ ?_).mono ?_
                         · exact HR1.out
                         rintro e w7 ⟨rfl, hroll⟩
                         have hg7 := (Gen.other HG2.out HN.out hroll).1
                         have HR7 := hide' (Gen.other HG2.out HN.out hroll).2
                         have HB7 := hide' (HBw.out.trans (below_roll HP.out.1 hroll))
                         clear hroll)
                      | (go_at_call_of 10 rr'
                         refine (draw_any rr' pc' hi lo hlo _ ?_).mono ?_
                         · exact HR7.out
                         rintro e w8 ⟨rfl, hroll⟩
                         have HB8 := hide' (HB7.out.trans (below_roll HP.out.2 hroll))
                         clear hroll))
                    all_goals
                      go_wp2
                      go_ret
                      exact ⟨rfl, HB8.out⟩
end Go.Proofs.Ybulkaawi
