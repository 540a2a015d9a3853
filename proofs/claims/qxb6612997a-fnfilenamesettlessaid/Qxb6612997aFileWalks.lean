/-
  THE WALKS of 'ca.ZZFileNameWithCN' and 'ca.ZZFileNameNoRequest' (functions 6 and 7 of the dump): what each returns, by whether the name is empty.
-/
import Derived.Test.Qxb6612997aProg
import Derived.WalkKit
import Derived.WalkLawsBesides
namespace Go.Proofs.Qxb6612997a.fnFileNameSettles
open Go.RowKit

set_option maxRecDepth 100000 in
theorem withCN_some (p n cn : ByteArray) (d : Int) (w : World) (hn : n.toList.isEmpty = false) :
    Calls Try.prog 6 #[.string p, .string n, .int .i64 d, .string cn] w fun e w' => e = .returned (.string n) ∧ Grown w w' := by
  go_enter Try.func6, Try.ntmps6
  go_wp2
  go_ret
  exact ⟨rfl, by repeat (first | exact Grown.refl _ | apply Grown.drew | apply Grown.alloc)⟩

set_option maxRecDepth 100000 in
theorem withCN_empty (p n cn : ByteArray) (d : Int) (w : World) (hn : n.toList.isEmpty = true) :
    Calls Try.prog 6 #[.string p, .string n, .int .i64 d, .string cn] w fun e w' => e = .returned (.string cn) ∧ Grown w w' := by
  go_enter Try.func6, Try.ntmps6
  go_wp2
  go_ret
  exact ⟨rfl, by repeat (first | exact Grown.refl _ | apply Grown.drew | apply Grown.alloc)⟩

set_option maxRecDepth 100000 in
theorem noReq (p n : ByteArray) (d : Int) (w : World) :
    Calls Try.prog 7 #[.string p, .string n, .int .i64 d] w fun e w' => e = .returned (.string n) ∧ Grown w w' := by
  by_cases hn : n.toList.isEmpty = true
  · go_enter Try.func7, Try.ntmps7
    go_wp2
    go_ret
    exact ⟨rfl, by repeat (first | exact Grown.refl _ | apply Grown.drew | apply Grown.alloc)⟩
  · have hn' : n.toList.isEmpty = false := by simpa using hn
    clear hn
    go_enter Try.func7, Try.ntmps7
    go_wp2
    go_ret
    exact ⟨rfl, by repeat (first | exact Grown.refl _ | apply Grown.drew | apply Grown.alloc)⟩
end Go.Proofs.Qxb6612997a.fnFileNameSettles
