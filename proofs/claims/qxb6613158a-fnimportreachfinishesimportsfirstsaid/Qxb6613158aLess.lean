/-
  THE WALK of 'lessBytes' (11): it tells whether strings.Compare would answer less than nought.
-/
import Derived.Test.Qxb6613158aProg
import Derived.Test.Qxb6613158aSorted
import Derived.WalkKit
import Derived.Below
import Derived.BigQuiet
import Derived.Deep.QuietTactic
import Derived.WalkSpells
import Derived.WalkLawsBesides
import Derived.OpenShut
namespace Go.Proofs.Qxb6613158a
open Go.RowKit
set_option linter.unusedSimpArgs false
set_option linter.unusedVariables false

/-- The two worlds part in draws alone. -/
structure Same (w w' : World) : Prop where
  heap : w'.heap = w.heap
  os : w'.os = w.os
  tape : w'.tape = w.tape
  output : w'.output = w.output

theorem Same.refl (w : World) : Same w w := ⟨rfl, rfl, rfl, rfl⟩
theorem Same.trans {a b c : World} (h : Same a b) (k : Same b c) : Same a c := ⟨k.heap.trans h.heap, k.os.trans h.os, k.tape.trans h.tape, k.output.trans h.output⟩
theorem Same.drewN (w : World) (n : Nat) : Same w (w.drewN n) := ⟨rfl, rfl, rfl, rfl⟩
theorem Same.below {w w' : World} (h : Same w w') (B : Nat) : Below B w w' := ⟨h.os, h.tape, h.output, by rw [h.heap]; exact Nat.le_refl _, fun k _ => by rw [h.heap]⟩
theorem Same.cell {w w' : World} (h : Same w w') (a : Addr) : w'.cell? a = w.cell? a := by simp [World.cell?, h.heap]
theorem Same.frozen {w w' : World} (h : Same w w') (a : Addr) : w'.frozen? a = w.frozen? a := by simp [World.frozen?, h.heap]

theorem getD_byte (a : ByteArray) (k : Nat) (h : k < a.size) : a.data.toList.getD k 0 = a[k] := by
  rw [List.getD_eq_getElem?_getD, List.getElem?_eq_getElem (by simpa using h)]
  rfl

/-- What lessBytes answers. -/
def lessB (a b : ByteArray) : Bool := decide (cmpS a b < 0)

theorem lessB_at (a b : ByteArray) (k : Nat) (h1 : k < a.size) (h2 : k < b.size) (h : ∀ j, j < k → a.data.toList.getD j 0 = b.data.toList.getD j 0) (hne : a[k] ≠ b[k]) : lessB a b = decide ((a[k].toNat : Int) < (b[k].toNat : Int)) := by
  have hc := cmp_at k a.data.toList b.data.toList (by simpa using h1) (by simpa using h2) h (by rw [getD_byte a k h1, getD_byte b k h2]; exact hne)
  rw [getD_byte a k h1, getD_byte b k h2, UInt8.lt_iff_toNat_lt] at hc
  unfold lessB cmpS
  rw [Bool.eq_iff_iff]
  simp only [decide_eq_true_eq]
  omega

theorem lessB_short (a b : ByteArray) (k : Nat) (hk : k = a.size ∨ k = b.size) (h1 : k ≤ a.size) (h2 : k ≤ b.size) (h : ∀ j, j < k → a.data.toList.getD j 0 = b.data.toList.getD j 0) : lessB a b = decide ((a.size : Int) < (b.size : Int)) := by
  have hc := cmp_short a.data.toList b.data.toList k (by simpa using hk) (by simpa using h1) (by simpa using h2) h
  have e1 : a.data.toList.length = a.size := by simp
  have e2 : b.data.toList.length = b.size := by simp
  unfold lessB cmpS
  rw [Bool.eq_iff_iff]
  simp only [decide_eq_true_eq]
  omega

set_option maxHeartbeats 1000000 in
set_option maxRecDepth 100000 in
theorem less_any (a b : ByteArray) (ha : a.size ≤ maxLen) (hb : b.size ≤ maxLen) (w : World) :
    Calls Try.prog 11 #[.string a, .string b] w fun e w' => e = .returned (.bool (lessB a b)) ∧ ∃ m, w' = w.drewN m := by
  unfold maxLen at ha hb
  go_enter Try.func11, Try.ntmps11
  go_wp2
  go_loopw [5] (fun z wr => ∃ k : Nat, z = .int .i64 k ∧ k ≤ a.size ∧ k ≤ b.size ∧ (∀ j, j < k → a.data.toList.getD j 0 = b.data.toList.getD j 0) ∧ ∃ m, wr = w.drewN m) (fun z _ => a.size - (intOf z).toNat)
  case atStart => exact ⟨0, rfl, Nat.zero_le _, Nat.zero_le _, fun j hj => absurd hj (Nat.not_lt_zero j), 0, rfl⟩
  case round =>
    obtain ⟨k, rfl, hka, hkb, hall, m, rfl⟩ := hrel
    have HA : Hid _ := hall
    clear hall
    by_cases hlt : k < a.size
    · by_cases hlt2 : k < b.size
      · by_cases hne : a[k] = b[k]
        · have he : ((a[k].toNat : Int) != (b[k].toNat : Int)) = false := by rw [hne]; simp
          have HE : Hid _ := hne
          clear hne
          go_wp2
          go_quiet (fail)
          go_wp2
          refine ⟨⟨k + 1, by go_num, by omega, by omega, fun j hj => ?_, _, rfl⟩, by simp [intOf]; omega⟩
          by_cases hj' : j = k
          · subst hj'; rw [getD_byte a j hlt, getD_byte b j hlt2]; exact HE.out
          · exact HA.out j (by omega)
        · have he : ((a[k].toNat : Int) != (b[k].toNat : Int)) = true := by
            rw [bne_iff_ne]
            intro h
            exact hne (UInt8.toNat_inj.1 (by omega))
          have hres := lessB_at a b k hlt hlt2 HA.out hne
          have HR : Hid _ := hres
          clear hne hres
          go_wp2
          go_quiet (fail)
          go_wp2
          go_quiet (fail)
          go_wp2
          go_ret
          exact ⟨by rw [HR.out]; simp, _, (World.drewN_drewN _ _ _).trans (World.drewN_drewN _ _ _)⟩
      · have hres := lessB_short a b k (.inr (by omega)) hka hkb HA.out
        have HR : Hid _ := hres
        clear hres
        go_wp2
        go_ret
        exact ⟨by rw [HR.out]; simp, m, rfl⟩
    · have hres := lessB_short a b k (.inl (by omega)) hka hkb HA.out
      have HR : Hid _ := hres
      clear hres
      go_wp2
      go_ret
      exact ⟨by rw [HR.out]; simp, m, rfl⟩
end Go.Proofs.Qxb6613158a
