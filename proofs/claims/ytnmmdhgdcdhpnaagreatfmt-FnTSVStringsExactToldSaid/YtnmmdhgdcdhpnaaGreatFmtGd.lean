/-
  The guards zzBytes_<law> over a row of strings: each answers some Boolean and writes nothing.   PRINTED BY this repo's wip/mk_ex.py.
-/
import Derived.Test.YtnmmdhgdcdhpnaaGreatFmtProg
import Derived.Test.YtnmmdhgdcdhpnaaGreatFmtKit
import Derived.WalkSpells
namespace Go.Proofs.YtnmmdhgdcdhpnaaGreatFmt
open Go Go.RowKit

set_option maxHeartbeats 400000 in
theorem bytes_FnShStringsExact (a : Option Addr) (cap : Nat) (ss : List ByteArray) (w : World) (hl : ss.length ≤ 140737488351232) (hrow : Row w a (strV ss)) :
    Calls Tryz.prog 10 #[.slice a ss.length cap] w fun e w' => SomeBool e ∧ w = w' := by
  go_enter Tryz.func10, Tryz.ntmps10
  go_wp2
  · go_ret
    exact ⟨⟨_, rfl⟩, rfl⟩
  · go_loop [3, 4] (fun z i => ∃ k n : Nat, k ≤ ss.length ∧ n ≤ 1048576 ∧ z = .int .i64 n ∧ i = .int .i64 k) (fun _ i => ss.length - (intOf i).toNat)
    case atStart => exact ⟨0, ss.length, by omega, by omega, rfl, rfl⟩
    case round =>
      obtain ⟨k, n, hk, hn, rfl, rfl⟩ := hrel
      by_cases hlt : k < ss.length
      · obtain ⟨b, off, rfl, hbw, hc⟩ := hrow.at (k := k) (by simpa [strV] using hlt)
        have hck := hc k _ (strV_get ss hlt)
        clear hc
        go_wp2
        all_goals first
          | (go_ret; exact ⟨⟨_, rfl⟩, rfl⟩)
          | (go_round
             case rel => exact ⟨k + 1, n + ss[k].size, by omega, by omega, by go_num, by go_num⟩
             case measure => simp [intOf]; omega)
      · go_wp2
        go_ret
        exact ⟨⟨_, rfl⟩, rfl⟩

set_option maxHeartbeats 400000 in
theorem bytes_FnTSVStringsExact (a : Option Addr) (cap : Nat) (ss : List ByteArray) (w : World) (hl : ss.length ≤ 140737488351232) (hrow : Row w a (strV ss)) :
    Calls Tryz.prog 15 #[.slice a ss.length cap] w fun e w' => SomeBool e ∧ w = w' := by
  go_enter Tryz.func15, Tryz.ntmps15
  go_wp2
  · go_ret
    exact ⟨⟨_, rfl⟩, rfl⟩
  · go_loop [3, 4] (fun z i => ∃ k n : Nat, k ≤ ss.length ∧ n ≤ 1048576 ∧ z = .int .i64 n ∧ i = .int .i64 k) (fun _ i => ss.length - (intOf i).toNat)
    case atStart => exact ⟨0, ss.length, by omega, by omega, rfl, rfl⟩
    case round =>
      obtain ⟨k, n, hk, hn, rfl, rfl⟩ := hrel
      by_cases hlt : k < ss.length
      · obtain ⟨b, off, rfl, hbw, hc⟩ := hrow.at (k := k) (by simpa [strV] using hlt)
        have hck := hc k _ (strV_get ss hlt)
        clear hc
        go_wp2
        all_goals first
          | (go_ret; exact ⟨⟨_, rfl⟩, rfl⟩)
          | (go_round
             case rel => exact ⟨k + 1, n + ss[k].size, by omega, by omega, by go_num, by go_num⟩
             case measure => simp [intOf]; omega)
      · go_wp2
        go_ret
        exact ⟨⟨_, rfl⟩, rfl⟩

set_option maxHeartbeats 400000 in
theorem bytes_FnTSVStringsRoundTrip (a : Option Addr) (cap : Nat) (ss : List ByteArray) (w : World) (hl : ss.length ≤ 140737488351232) (hrow : Row w a (strV ss)) :
    Calls Tryz.prog 18 #[.slice a ss.length cap] w fun e w' => SomeBool e ∧ w = w' := by
  go_enter Tryz.func18, Tryz.ntmps18
  go_wp2
  · go_ret
    exact ⟨⟨_, rfl⟩, rfl⟩
  · go_loop [3, 4] (fun z i => ∃ k n : Nat, k ≤ ss.length ∧ n ≤ 1048576 ∧ z = .int .i64 n ∧ i = .int .i64 k) (fun _ i => ss.length - (intOf i).toNat)
    case atStart => exact ⟨0, ss.length, by omega, by omega, rfl, rfl⟩
    case round =>
      obtain ⟨k, n, hk, hn, rfl, rfl⟩ := hrel
      by_cases hlt : k < ss.length
      · obtain ⟨b, off, rfl, hbw, hc⟩ := hrow.at (k := k) (by simpa [strV] using hlt)
        have hck := hc k _ (strV_get ss hlt)
        clear hc
        go_wp2
        all_goals first
          | (go_ret; exact ⟨⟨_, rfl⟩, rfl⟩)
          | (go_round
             case rel => exact ⟨k + 1, n + ss[k].size, by omega, by omega, by go_num, by go_num⟩
             case measure => simp [intOf]; omega)
      · go_wp2
        go_ret
        exact ⟨⟨_, rfl⟩, rfl⟩

set_option maxHeartbeats 400000 in
theorem bytes_FnShStringsRoundTrip (a : Option Addr) (cap : Nat) (ss : List ByteArray) (w : World) (hl : ss.length ≤ 140737488351232) (hrow : Row w a (strV ss)) :
    Calls Tryz.prog 19 #[.slice a ss.length cap] w fun e w' => SomeBool e ∧ w = w' := by
  go_enter Tryz.func19, Tryz.ntmps19
  go_wp2
  · go_ret
    exact ⟨⟨_, rfl⟩, rfl⟩
  · go_loop [3, 4] (fun z i => ∃ k n : Nat, k ≤ ss.length ∧ n ≤ 1048576 ∧ z = .int .i64 n ∧ i = .int .i64 k) (fun _ i => ss.length - (intOf i).toNat)
    case atStart => exact ⟨0, ss.length, by omega, by omega, rfl, rfl⟩
    case round =>
      obtain ⟨k, n, hk, hn, rfl, rfl⟩ := hrel
      by_cases hlt : k < ss.length
      · obtain ⟨b, off, rfl, hbw, hc⟩ := hrow.at (k := k) (by simpa [strV] using hlt)
        have hck := hc k _ (strV_get ss hlt)
        clear hc
        go_wp2
        all_goals first
          | (go_ret; exact ⟨⟨_, rfl⟩, rfl⟩)
          | (go_round
             case rel => exact ⟨k + 1, n + ss[k].size, by omega, by omega, by go_num, by go_num⟩
             case measure => simp [intOf]; omega)
      · go_wp2
        go_ret
        exact ⟨⟨_, rfl⟩, rfl⟩

end Go.Proofs.YtnmmdhgdcdhpnaaGreatFmt
