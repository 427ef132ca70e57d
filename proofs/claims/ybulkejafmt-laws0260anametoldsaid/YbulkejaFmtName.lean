import Derived.Test.YbulkejaFmtStr
namespace Go.Proofs.YbulkejaFmt.Name
open Go.RowKit Str

/-! 'LawS0260AName' at each of the nine remainders. -/

set_option maxHeartbeats 400000 in
theorem walk0 (x : Int) (h0 : 0 ≤ x) (h1 : x ≤ 18446744073709551615) (hr : x % 9 = 0) (w : World) :
    Calls Ybaf.prog 3 #[.int .u64 x] w fun e w' => e = .returned (.bool true) ∧ Grown w w' := by
  go_enter Ybaf.func3, Ybaf.ntmps3
  go_wp2
  go_quiet ((go_at_call 5; exact Calls.quiet_of_same (str0 _)))
  go_wp2
  go_ret
  exact ⟨rfl, by repeat (first | exact Grown.refl _ | apply Grown.drew | apply Grown.alloc)⟩

set_option maxHeartbeats 400000 in
theorem walk1 (x : Int) (h0 : 0 ≤ x) (h1 : x ≤ 18446744073709551615) (hr : x % 9 = 1) (w : World) :
    Calls Ybaf.prog 3 #[.int .u64 x] w fun e w' => e = .returned (.bool true) ∧ Grown w w' := by
  go_enter Ybaf.func3, Ybaf.ntmps3
  go_wp2
  go_quiet ((go_at_call 5; exact Calls.quiet_of_same (str1 _)))
  go_wp2
  go_ret
  exact ⟨rfl, by repeat (first | exact Grown.refl _ | apply Grown.drew | apply Grown.alloc)⟩

set_option maxHeartbeats 400000 in
theorem walk2 (x : Int) (h0 : 0 ≤ x) (h1 : x ≤ 18446744073709551615) (hr : x % 9 = 2) (w : World) :
    Calls Ybaf.prog 3 #[.int .u64 x] w fun e w' => e = .returned (.bool true) ∧ Grown w w' := by
  go_enter Ybaf.func3, Ybaf.ntmps3
  go_wp2
  go_quiet ((go_at_call 5; exact Calls.quiet_of_same (str2 _)))
  go_wp2
  go_ret
  exact ⟨rfl, by repeat (first | exact Grown.refl _ | apply Grown.drew | apply Grown.alloc)⟩

set_option maxHeartbeats 400000 in
theorem walk3 (x : Int) (h0 : 0 ≤ x) (h1 : x ≤ 18446744073709551615) (hr : x % 9 = 3) (w : World) :
    Calls Ybaf.prog 3 #[.int .u64 x] w fun e w' => e = .returned (.bool true) ∧ Grown w w' := by
  go_enter Ybaf.func3, Ybaf.ntmps3
  go_wp2
  go_quiet ((go_at_call 5; exact Calls.quiet_of_same (str3 _)))
  go_wp2
  go_ret
  exact ⟨rfl, by repeat (first | exact Grown.refl _ | apply Grown.drew | apply Grown.alloc)⟩

set_option maxHeartbeats 400000 in
theorem walk4 (x : Int) (h0 : 0 ≤ x) (h1 : x ≤ 18446744073709551615) (hr : x % 9 = 4) (w : World) :
    Calls Ybaf.prog 3 #[.int .u64 x] w fun e w' => e = .returned (.bool true) ∧ Grown w w' := by
  go_enter Ybaf.func3, Ybaf.ntmps3
  go_wp2
  go_quiet ((go_at_call 5; exact Calls.quiet_of_same (str4 _)))
  go_wp2
  go_ret
  exact ⟨rfl, by repeat (first | exact Grown.refl _ | apply Grown.drew | apply Grown.alloc)⟩

set_option maxHeartbeats 400000 in
theorem walk5 (x : Int) (h0 : 0 ≤ x) (h1 : x ≤ 18446744073709551615) (hr : x % 9 = 5) (w : World) :
    Calls Ybaf.prog 3 #[.int .u64 x] w fun e w' => e = .returned (.bool true) ∧ Grown w w' := by
  go_enter Ybaf.func3, Ybaf.ntmps3
  go_wp2
  go_quiet ((go_at_call 5; exact Calls.quiet_of_same (str5 _)))
  go_wp2
  go_ret
  exact ⟨rfl, by repeat (first | exact Grown.refl _ | apply Grown.drew | apply Grown.alloc)⟩

set_option maxHeartbeats 400000 in
theorem walk6 (x : Int) (h0 : 0 ≤ x) (h1 : x ≤ 18446744073709551615) (hr : x % 9 = 6) (w : World) :
    Calls Ybaf.prog 3 #[.int .u64 x] w fun e w' => e = .returned (.bool true) ∧ Grown w w' := by
  go_enter Ybaf.func3, Ybaf.ntmps3
  go_wp2
  go_quiet ((go_at_call 5; exact Calls.quiet_of_same (str6 _)))
  go_wp2
  go_ret
  exact ⟨rfl, by repeat (first | exact Grown.refl _ | apply Grown.drew | apply Grown.alloc)⟩

set_option maxHeartbeats 400000 in
theorem walk7 (x : Int) (h0 : 0 ≤ x) (h1 : x ≤ 18446744073709551615) (hr : x % 9 = 7) (w : World) :
    Calls Ybaf.prog 3 #[.int .u64 x] w fun e w' => e = .returned (.bool true) ∧ Grown w w' := by
  go_enter Ybaf.func3, Ybaf.ntmps3
  go_wp2
  go_quiet ((go_at_call 5; exact Calls.quiet_of_same (str7 _)))
  go_wp2
  go_ret
  exact ⟨rfl, by repeat (first | exact Grown.refl _ | apply Grown.drew | apply Grown.alloc)⟩

set_option maxHeartbeats 400000 in
theorem walk8 (x : Int) (h0 : 0 ≤ x) (h1 : x ≤ 18446744073709551615) (hr : x % 9 = 8) (w : World) :
    Calls Ybaf.prog 3 #[.int .u64 x] w fun e w' => e = .returned (.bool true) ∧ Grown w w' := by
  go_enter Ybaf.func3, Ybaf.ntmps3
  go_wp2
  go_quiet ((go_at_call 5; exact Calls.quiet_of_same (str8 _)))
  go_wp2
  go_ret
  exact ⟨rfl, by repeat (first | exact Grown.refl _ | apply Grown.drew | apply Grown.alloc)⟩

theorem walk (x : Int) (h0 : 0 ≤ x) (h1 : x ≤ 18446744073709551615) (w : World) :
    Calls Ybaf.prog 3 #[.int .u64 x] w fun e w' => e = .returned (.bool true) ∧ Grown w w' := by
  have h : x % 9 = 0 ∨ x % 9 = 1 ∨ x % 9 = 2 ∨ x % 9 = 3 ∨ x % 9 = 4 ∨ x % 9 = 5 ∨ x % 9 = 6 ∨ x % 9 = 7 ∨ x % 9 = 8 := by omega
  rcases h with h | h | h | h | h | h | h | h | h
  · exact walk0 x h0 h1 h w
  · exact walk1 x h0 h1 h w
  · exact walk2 x h0 h1 h w
  · exact walk3 x h0 h1 h w
  · exact walk4 x h0 h1 h w
  · exact walk5 x h0 h1 h w
  · exact walk6 x h0 h1 h w
  · exact walk7 x h0 h1 h w
  · exact walk8 x h0 h1 h w

end Go.Proofs.YbulkejaFmt.Name
