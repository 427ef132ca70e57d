import Derived.Test.YbulkejaFmtCards
import Derived.WalkKit
import Derived.Deep.QuietTactic
import Derived.BigQuiet
namespace Go.Proofs.YbulkejaFmt.Str
open Go.RowKit

/-! '(nameForm).String' at each of the nine known forms. -/

theorem str0 (w : World) : Calls Ybaf.prog 5 #[.int .i64 0] w fun e w' => e = .returned (.string ⟨#[111, 116, 104, 101, 114, 78, 97, 109, 101]⟩) ∧ w' = w := by
  go_enter Ybaf.func5, Ybaf.ntmps5
  go_wp2
  go_ret
  exact ⟨rfl, rfl⟩

theorem str1 (w : World) : Calls Ybaf.prog 5 #[.int .i64 1] w fun e w' => e = .returned (.string ⟨#[114, 102, 99, 56, 50, 50, 78, 97, 109, 101]⟩) ∧ w' = w := by
  go_enter Ybaf.func5, Ybaf.ntmps5
  go_wp2
  go_ret
  exact ⟨rfl, rfl⟩

theorem str2 (w : World) : Calls Ybaf.prog 5 #[.int .i64 2] w fun e w' => e = .returned (.string ⟨#[100, 78, 83, 78, 97, 109, 101]⟩) ∧ w' = w := by
  go_enter Ybaf.func5, Ybaf.ntmps5
  go_wp2
  go_ret
  exact ⟨rfl, rfl⟩

theorem str3 (w : World) : Calls Ybaf.prog 5 #[.int .i64 3] w fun e w' => e = .returned (.string ⟨#[120, 52, 48, 48, 65, 100, 100, 114, 101, 115, 115]⟩) ∧ w' = w := by
  go_enter Ybaf.func5, Ybaf.ntmps5
  go_wp2
  go_ret
  exact ⟨rfl, rfl⟩

theorem str4 (w : World) : Calls Ybaf.prog 5 #[.int .i64 4] w fun e w' => e = .returned (.string ⟨#[100, 105, 114, 101, 99, 116, 111, 114, 121, 78, 97, 109, 101]⟩) ∧ w' = w := by
  go_enter Ybaf.func5, Ybaf.ntmps5
  go_wp2
  go_ret
  exact ⟨rfl, rfl⟩

theorem str5 (w : World) : Calls Ybaf.prog 5 #[.int .i64 5] w fun e w' => e = .returned (.string ⟨#[101, 100, 105, 80, 97, 114, 116, 121, 78, 97, 109, 101]⟩) ∧ w' = w := by
  go_enter Ybaf.func5, Ybaf.ntmps5
  go_wp2
  go_ret
  exact ⟨rfl, rfl⟩

theorem str6 (w : World) : Calls Ybaf.prog 5 #[.int .i64 6] w fun e w' => e = .returned (.string ⟨#[117, 110, 105, 102, 111, 114, 109, 82, 101, 115, 111, 117, 114, 99, 101, 73, 100, 101, 110, 116, 105, 102, 105, 101, 114]⟩) ∧ w' = w := by
  go_enter Ybaf.func5, Ybaf.ntmps5
  go_wp2
  go_ret
  exact ⟨rfl, rfl⟩

theorem str7 (w : World) : Calls Ybaf.prog 5 #[.int .i64 7] w fun e w' => e = .returned (.string ⟨#[105, 80, 65, 100, 100, 114, 101, 115, 115]⟩) ∧ w' = w := by
  go_enter Ybaf.func5, Ybaf.ntmps5
  go_wp2
  go_ret
  exact ⟨rfl, rfl⟩

theorem str8 (w : World) : Calls Ybaf.prog 5 #[.int .i64 8] w fun e w' => e = .returned (.string ⟨#[114, 101, 103, 105, 115, 116, 101, 114, 101, 100, 73, 68]⟩) ∧ w' = w := by
  go_enter Ybaf.func5, Ybaf.ntmps5
  go_wp2
  go_ret
  exact ⟨rfl, rfl⟩

end Go.Proofs.YbulkejaFmt.Str
