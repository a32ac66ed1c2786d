/-
  The walks of 'kltp.LawS6755AWhole': the Go text returns true, at a negative number and at another.
-/
import Derived.Test.YbulkeiwiFmtMyFacts
import Derived.WalkKit
import Derived.WalkSpells
import Derived.ProofKit
namespace Go.Proofs.YbulkeiwiFmt
open Go.RowKit Go.Extern.Stop Go.Stop Go.Extern

theorem ret_bool {a b : Bool} (h : a = b) : Ending.returned (.bool a) = .returned (.bool b) := by rw [h]

theorem neg_low (n : Int) (w : World) (h1 : -2147483648 ≤ n) (h2 : n < 0) :
    Calls Ybaf.prog 5 #[.int .i32 n] w fun e w' => e = .returned (.bool true) ∧ w' = w := by
  go_enter Ybaf.func5, Ybaf.ntmps5
  go_wp2
  go_ret
  exact ⟨ret_bool (beq_iff_eq.2 (by omega)), rfl⟩

theorem neg_ok (n : Int) (w : World) (h1 : 0 ≤ n) (h2 : n ≤ 2147483647) :
    Calls Ybaf.prog 5 #[.int .i32 n] w fun e w' => e = .returned (.bool false) ∧ w' = w := by
  go_enter Ybaf.func5, Ybaf.ntmps5
  go_wp2
  go_ret
  exact ⟨ret_bool (beq_eq_false_iff_ne.2 (by omega)), rfl⟩

theorem check_low (F : Interp) (nm : ByteArray) (n : Int) (w : World) (hF : F.answers w.tape) (hn : n < 0) :
    Calls Ybaf.prog 4 #[.string nm, .int .i32 n] w fun e w' => (∃ a : Addr, e = .returned (.iface 33 (.pointer (some a)))) ∧ Grown w w' := by
  have hF' := answers_open hF
  go_enter Ybaf.func4, Ybaf.ntmps4
  go_wp2
  go_ret
  exact ⟨⟨_, rfl⟩, by repeat (first | exact Grown.refl _ | apply Grown.drew | apply Grown.alloc)⟩

theorem check_ok (nm : ByteArray) (n : Int) (w : World) (hn : 0 ≤ n) :
    Calls Ybaf.prog 4 #[.string nm, .int .i32 n] w fun e w' => e = .returned .nilIface ∧ w' = w := by
  go_enter Ybaf.func4, Ybaf.ntmps4
  go_wp2
  go_ret
  exact ⟨rfl, rfl⟩

theorem law_low (F : Interp) (nm : ByteArray) (n : Int) (w : World) (hF : F.answers w.tape) (h1 : -2147483648 ≤ n) (h2 : n < 0) :
    Calls Ybaf.prog 3 #[.string nm, .int .i32 n] w fun e w' => e = .returned (.bool true) ∧ Grown w w' := by
  go_enter Ybaf.func3, Ybaf.ntmps3
  go_wp2_with fail
  refine (check_low F nm n _ hF h2).mono ?_
  rintro e w1 ⟨⟨a, rfl⟩, hg⟩
  go_wp2_with fail
  refine (neg_low n _ h1 h2).mono ?_
  rintro e w2 ⟨rfl, rfl⟩
  go_wp2
  go_ret
  exact ⟨rfl, hg⟩

theorem law_ok (nm : ByteArray) (n : Int) (w : World) (h1 : 0 ≤ n) (h2 : n ≤ 2147483647) :
    Calls Ybaf.prog 3 #[.string nm, .int .i32 n] w fun e w' => e = .returned (.bool true) ∧ Grown w w' := by
  go_enter Ybaf.func3, Ybaf.ntmps3
  go_wp2_with fail
  refine (check_ok nm n _ h1).mono ?_
  rintro e w1 ⟨rfl, rfl⟩
  go_wp2_with fail
  refine (neg_ok n _ h1 h2).mono ?_
  rintro e w2 ⟨rfl, rfl⟩
  go_wp2
  go_ret
  exact ⟨rfl, Grown.refl _⟩

end Go.Proofs.YbulkeiwiFmt
