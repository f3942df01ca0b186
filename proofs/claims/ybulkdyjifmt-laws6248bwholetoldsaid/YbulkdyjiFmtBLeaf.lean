import Derived.Test.YbulkdyjiFmtBPlain
namespace Go.Proofs.YbulkdyjiFmt
open Go.RowKit

set_option maxHeartbeats 400000 in
theorem alnum_any (c : Int) (w : World) : Calls Ybaf.prog 10 #[.int .u8 c] w fun e w' => e = .returned (.bool (lowc c)) ∧ w' = w := by
  by_cases h1 : 97 ≤ c
  · by_cases h2 : c ≤ 122
    · rw [lowc_t (by omega)]
      go_enter Ybaf.func10, Ybaf.ntmps10
      go_wp2
      go_ret
      exact ⟨rfl, rfl⟩
    · rw [lowc_f (by omega)]
      have h3 : 48 ≤ c := by omega
      have h4 : ¬ c ≤ 57 := by omega
      go_enter Ybaf.func10, Ybaf.ntmps10
      go_wp2
      go_ret
      exact ⟨rfl, rfl⟩
  · by_cases h3 : 48 ≤ c
    · by_cases h4 : c ≤ 57
      · rw [lowc_t (by omega)]
        go_enter Ybaf.func10, Ybaf.ntmps10
        go_wp2
        go_ret
        exact ⟨rfl, rfl⟩
      · rw [lowc_f (by omega)]
        go_enter Ybaf.func10, Ybaf.ntmps10
        go_wp2
        go_ret
        exact ⟨rfl, rfl⟩
    · rw [lowc_f (by omega)]
      go_enter Ybaf.func10, Ybaf.ntmps10
      go_wp2
      go_ret
      exact ⟨rfl, rfl⟩

set_option maxHeartbeats 1000000 in
theorem model_any (s : ByteArray) (w : World) (hs : s.size ≤ maxLen) : Calls Ybaf.prog 7 #[.string s] w fun e w' => e = .returned (.bool (okId s)) ∧ w' = w := by
  unfold maxLen at hs
  by_cases h1 : s.size < 1
  · rw [okId_short (by omega)]
    have h1' : (s.size : Int) < 1 := by omega
    go_enter Ybaf.func7, Ybaf.ntmps7
    go_wp2
    go_ret
    exact ⟨rfl, rfl⟩
  by_cases h2 : 64 < s.size
  · rw [okId_short (by omega)]
    have h1' : ¬ (s.size : Int) < 1 := by omega
    have h2' : (64 : Int) < (s.size : Int) := by omega
    go_enter Ybaf.func7, Ybaf.ntmps7
    go_wp2
    go_ret
    exact ⟨rfl, rfl⟩
  have h1' : ¬ (s.size : Int) < 1 := by omega
  have h2' : ¬ (64 : Int) < (s.size : Int) := by omega
  go_enter Ybaf.func7, Ybaf.ntmps7
  go_wp2
  go_loop [3] (fun i => ∃ k : Nat, k ≤ s.size ∧ i = .int .i64 k ∧ Hid (goodTo s k)) (fun i => s.size - (intOf i).toNat)
  case atStart => exact ⟨0, Nat.zero_le _, rfl, goodTo_zero s⟩
  case round =>
    obtain ⟨k, hk, rfl, hg⟩ := hrel
    by_cases hlt : k < s.size
    · by_cases hd : 48 ≤ (s[k].toNat : Int) ∧ (s[k].toNat : Int) ≤ 57
      · obtain ⟨d1, d2⟩ := hd
        have HC : Hid (lowc (s[k].toNat : Int) = true) := lowc_t (.inl ⟨d1, d2⟩)
        have d3 : ¬ 97 ≤ (s[k].toNat : Int) := by omega
        go_wp2
        go_round
        case rel => exact ⟨k + 1, by omega, by go_num, goodTo_succ hlt hg.out HC.out⟩
        case measure => simp [intOf]; omega
      · by_cases hl : 97 ≤ (s[k].toNat : Int) ∧ (s[k].toNat : Int) ≤ 122
        · obtain ⟨d1, d2⟩ := hl
          have HC : Hid (lowc (s[k].toNat : Int) = true) := lowc_t (.inr ⟨d1, d2⟩)
          have d3 : 48 ≤ (s[k].toNat : Int) := by omega
          have d4 : ¬ (s[k].toNat : Int) ≤ 57 := by omega
          clear hd
          go_wp2
          go_round
          case rel => exact ⟨k + 1, by omega, by go_num, goodTo_succ hlt hg.out HC.out⟩
          case measure => simp [intOf]; omega
        · have HC : Hid (okId s = false) := okId_bad hlt (lowc_f (by omega))
          have hx : ((s[k].toNat : Int) < 48) ∨ (57 < (s[k].toNat : Int) ∧ (s[k].toNat : Int) < 97) ∨ (122 < (s[k].toNat : Int)) := by omega
          clear hd hl
          rcases hx with hx | ⟨hx, hy⟩ | hx
          · go_wp2
            go_ret
            exact ⟨ret_bool HC.out.symm, rfl⟩
          · have e1 : decide ((s[k].toNat : Int) ≤ 57) = false := decide_eq_false (by omega)
            go_wp2
            go_ret
            exact ⟨ret_bool HC.out.symm, rfl⟩
          · have e1 : decide ((s[k].toNat : Int) ≤ 57) = false := decide_eq_false (by omega)
            have e2 : decide ((s[k].toNat : Int) ≤ 122) = false := decide_eq_false (by omega)
            go_wp2
            go_ret
            exact ⟨ret_bool HC.out.symm, rfl⟩
    · have HC : Hid (okId s = true) := okId_good (by omega) (by omega) (fun j hj => hg.out j hj (by omega))
      go_wp2
      go_ret
      exact ⟨ret_bool HC.out.symm, rfl⟩

end Go.Proofs.YbulkdyjiFmt
