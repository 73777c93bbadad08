/-
  zzs1344awalk goes down such a chain and returns true.
-/
import Derived.Test.YbulkaausParted
namespace Go.Proofs.Ybulkaaus
open Go.RowKit

theorem neq_same (a : Addr) (w : World) : (binOp .neq 24 (.pointer (some a)) (.pointer (some a))).run Yba.prog w = .ok (.bool false) w := by
  obtain ⟨t, hp, ti, hi⟩ : ∃ t, Yba.prog.underlying 24 = some (.pointer t) ∧ ∃ ti, Yba.prog.info? t = some ti := ⟨_, Yba.underlying24, _, rfl⟩
  have h : ∀ d : Nat, (Op.equalIn (d + 1) 24 (.pointer (some a)) (.pointer (some a))).run Yba.prog w = .ok true w := fun d => by
    simp [Op.equalIn, run_underlying hp, sizeOf, typeInfo, hi, run_sameAddr_same]
  simp only [binOp]
  simp [Op.equal, Op.maxDepth, h 9999]

theorem CelIs.shape {w : World} {c : Nat} {child : Option Addr} {key : ByteArray} {val : Int} {next : Option Addr} (h : CelIs w c child key val next) : w.shape? c = some (27, 4) := by
  unfold World.shape?
  rw [h]
  rfl

theorem CelIs.cell {w : World} {c : Nat} {child : Option Addr} {key : ByteArray} {val : Int} {next : Option Addr} (h : CelIs w c child key val next) (i : Nat) {v : Value}
    (hv : (#[.pointer child, .string key, .int .i64 val, .pointer next] : Array Value)[i]? = some v) : w.cell? ⟨c, i, none⟩ = some v := by
  unfold World.cell?
  dsimp only
  rw [h]
  simpa using hv

set_option maxRecDepth 100000 in
set_option maxHeartbeats 1000000 in
theorem walk_any (a b ha hb lo : Nat) (w : World) (hha : ha < 18446744073709551616) (hhb : hb < 18446744073709551616) (hsa : w.shape? a = some (27, 4)) (hsb : w.shape? b = some (27, 4))
    (n0 s0 k0 : Nat) (hd0 : Diff ha hb s0) (hch0 : Chain w a b ha hb lo k0 n0 s0) :
    Calls Yba.prog 5 #[.pointer (some ⟨n0, 0, none⟩), .pointer (some ⟨a, 0, none⟩), .pointer (some ⟨b, 0, none⟩), .int .u64 ha, .int .u64 hb, .int .u64 s0] w fun e w' => e = .returned (.bool true) ∧ w = w' := by
  have hna := neq_same ⟨a, 0, none⟩ w
  have hnb := neq_same ⟨b, 0, none⟩ w
  go_enter Yba.func5, Yba.ntmps5
  go_wp2_with fail
  go_loop [0, 5] (fun t i => ∃ n s k : Nat, t = .pointer (some ⟨n, 0, none⟩) ∧ i = .int .u64 s ∧ Diff ha hb s ∧ Chain w a b ha hb lo k n s) (fun _ i => 64 - (intOf i).toNat)
  case atStart => exact ⟨n0, s0, k0, rfl, rfl, hd0, hch0⟩
  case round =>
    clear hd0 hch0
    obtain ⟨n, s, k, rfl, rfl, hd, hch⟩ := hrel
    have hs := diff_lt hha hhb hd
    obtain _ | k := k
    · exact hch.elim
    obtain ⟨_, _, hch⟩ := hch
    have ea := and31 ha s hha
    have eb := and31 hb s hhb
    have la := idx_lt ha s
    by_cases hi : idx ha s = idx hb s
    · rw [if_pos hi] at hch
      rw [← hi] at eb
      have HD : Hid (Diff ha hb (s + 5)) := diff_next hd hi
      clear hi hd
      generalize idx ha s = i at ea eb la hch
      obtain ⟨c, m, _, _, hn, hc, hm⟩ := hch
      have HM : Hid (Chain w a b ha hb lo k m (s + 5)) := hm
      clear hm
      have c0 := CelIs.cell hc 0 rfl
      have c1 := CelIs.cell hc 1 rfl
      have c2 := CelIs.cell hc 2 rfl
      have c3 := CelIs.cell hc 3 rfl
      have hsc := CelIs.shape hc
      go_wp2_with fail
      go_loop [15, 16] (fun x j => ∃ (t : Nat) (q : Option Addr), t ≤ 32 ∧ j = .int .u64 t ∧ x = .pointer q ∧ Hid (q = if i < t then some ⟨m, 0, none⟩ else none)) (fun _ j => 32 - (intOf j).toNat)
      case atStart => exact ⟨0, none, by omega, rfl, rfl, rfl⟩
      case round =>
        obtain ⟨t, q, ht, rfl, rfl, hq⟩ := hrel
        by_cases hlt : t < 32
        · by_cases hti : t = i
          · subst hti
            have hcell : w.cell? ⟨n, t, none⟩ = some (.pointer (some ⟨c, 0, none⟩)) := (hn t hlt).trans (by simp [one])
            go_wp2_with (go_at_call 8; refine (load_some _ _ c _ hcell hsc).mono ?_; rintro e w' ⟨rfl, rfl⟩)
            go_round
            case rel => exact ⟨t + 1, some ⟨m, 0, none⟩, by omega, by go_num, rfl, by unfold Hid; rw [if_pos (by omega)]⟩
            case measure => simp [intOf]; omega
          · have hcell : w.cell? ⟨n, t, none⟩ = some (.pointer none) := (hn t hlt).trans (by simp [one, hti])
            have hti' : ((t : Int) == (i : Int)) = false := by simp; omega
            go_wp2_with (go_at_call 8; refine (load_nil _ _ _ hcell).mono ?_; rintro e w' ⟨rfl, rfl⟩)
            go_round
            case rel => exact ⟨t + 1, q, by omega, by go_num, rfl, by unfold Hid; rw [hq.out]; by_cases c : i < t; rw [if_pos c, if_pos (by omega)]; rw [if_neg c, if_neg (by omega)]⟩
            case measure => simp [intOf]; omega
        · have hqm : q = some ⟨m, 0, none⟩ := by rw [hq.out, if_pos (by omega)]
          have HQ : Hid (q = some ⟨m, 0, none⟩) := hqm
          have hs5 := diff_lt hha hhb HD.out
          clear hqm hq
          go_wp2_with fail
          go_round
          case rel => exact ⟨m, s + 5, k, by rw [HQ.out], by go_num, HD.out, HM.out⟩
          case measure => simp [intOf]; omega
    · rw [if_neg hi] at hch
      have lb := idx_lt hb s
      clear hd
      generalize idx ha s = i at ea la hch hi
      generalize idx hb s = l at eb lb hch hi
      have hil : ((i : Int) == (l : Int)) = false := by simp; omega
      have hil' : ((i : Int) != (l : Int)) = true := by simp; omega
      go_wp2_with fail
      go_loop [16] (fun j => ∃ t : Nat, t ≤ 32 ∧ j = .int .u64 t) (fun j => 32 - (intOf j).toNat)
      case atStart => exact ⟨0, by omega, rfl⟩
      case round =>
        obtain ⟨t, ht, rfl⟩ := hrel
        by_cases hlt : t < 32
        · by_cases hti : t = i
          · subst hti
            have hcell : w.cell? ⟨n, t, none⟩ = some (.pointer (some ⟨a, 0, none⟩)) := (hch t hlt).trans (by simp [two])
            go_wp2_with (go_at_call 8; refine (load_some _ _ a _ hcell hsa).mono ?_; rintro e w' ⟨rfl, rfl⟩)
            go_round
            case rel => exact ⟨t + 1, by omega, by go_num⟩
            case measure => simp [intOf]; omega
          · have hti' : ((t : Int) == (i : Int)) = false := by simp; omega
            by_cases htl : t = l
            · subst htl
              have hcell : w.cell? ⟨n, t, none⟩ = some (.pointer (some ⟨b, 0, none⟩)) := (hch t hlt).trans (by simp [two, hti])
              go_wp2_with (go_at_call 8; refine (load_some _ _ b _ hcell hsb).mono ?_; rintro e w' ⟨rfl, rfl⟩)
              go_round
              case rel => exact ⟨t + 1, by omega, by go_num⟩
              case measure => simp [intOf]; omega
            · have htl' : ((t : Int) == (l : Int)) = false := by simp; omega
              have hcell : w.cell? ⟨n, t, none⟩ = some (.pointer none) := (hch t hlt).trans (by simp [two, hti, htl])
              go_wp2_with (go_at_call 8; refine (load_nil _ _ _ hcell).mono ?_; rintro e w' ⟨rfl, rfl⟩)
              go_round
              case rel => exact ⟨t + 1, by omega, by go_num⟩
              case measure => simp [intOf]; omega
        · go_wp2_with fail
          go_ret
          exact ⟨rfl, rfl⟩
end Go.Proofs.Ybulkaaus
