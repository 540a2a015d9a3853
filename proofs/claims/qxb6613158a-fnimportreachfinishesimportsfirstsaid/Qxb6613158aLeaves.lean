/-
  THE WALKS of the law's own helpers: isPermutation (7), sameFlat (9).
-/
import Derived.Test.Qxb6613158aLess
import Derived.Test.Qxb6613158aStrs
import Derived.Test.Qxb6613158aLawPlain
namespace Go.Proofs.Qxb6613158a
open Go.RowKit
set_option linter.unusedSimpArgs false
set_option linter.unusedVariables false

theorem info4 : (Try.prog.info? 4).map (fun i => (i.zero, i.size, i.bytes)) = some (some (.bool false), 1, 1) := by kernel_rfl

set_option maxHeartbeats 1000000 in
set_option maxRecDepth 100000 in
theorem perm_any (g n cap : Nat) (num : Nat → Nat) (w : World) (hn : n ≤ 4096) (hrow : w.rowIs g 21 n (fun j => .int .i32 (num j))) (hlt : ∀ v, v < n → num v < n) (hinj : ∀ u v, u < n → v < n → num u = num v → u = v) :
    Calls Try.prog 7 #[.slice (some ⟨g, 0, none⟩) n cap, .int .i64 n] w fun e w' => e = .returned (.bool true) ∧ Below w.heap.size w w' := by
  have hmk := run_make_row' (P := Try.prog) 31 4 (.bool false) 1 Try.underlying31 info4 rfl .i64 .i64 n (by omega) (by omega) w
  have hseen := World.rowIs_made w (.bool false) n 4
  have HI : Hid _ := hinj
  have HL : Hid _ := hlt
  clear hinj hlt
  go_enter Try.func7, Try.ntmps7
  go_wp2
  go_loopw [6] (fun z wr => ∃ k : Nat, z = .int .i64 k ∧ k ≤ n ∧ (∃ sv : Nat → Bool, wr.rowIs w.heap.size 4 n (fun j => .bool (sv j)) ∧ ∀ j, sv j = true → ∃ i, i < k ∧ num i = j) ∧ Below w.heap.size w wr) (fun z _ => n - (intOf z).toNat)
  case atStart => exact ⟨0, rfl, Nat.zero_le _, ⟨fun _ => false, hseen, fun j hj => by cases hj⟩, (Below.refl _ _).alloc (Nat.le_refl _) _⟩
  case round =>
    obtain ⟨k, rfl, hk, ⟨sv, hs, hsv⟩, hnx⟩ := hrel
    have HS : Hid _ := hsv
    clear hsv
    by_cases hkn : k < n
    · have hcx : wr.cell? ⟨g, k, none⟩ = some (.int .i32 (num k)) := (hnx.cell hrow.lt).trans (hrow.cell hkn)
      have hnk := HL.out k hkn
      have hnot : sv (num k) = false := by
        cases hp : sv (num k) with
        | false => rfl
        | true =>
          obtain ⟨i, hi, e⟩ := HS.out _ hp
          have := HI.out i k (by omega) hkn e
          omega
      have hsc := hs.cell hnk
      rw [hnot] at hsc
      have hsf := hs.frozen (num k)
      clear hnot
      generalize hq : num k = q at hcx hnk hsc hsf
      have HQ : Hid _ := hq
      clear hq
      have h1 : (0 : Int) ≤ (q : Int) := by omega
      have h2 : (q : Int) < (n : Int) := by omega
      go_wp2
      go_roundw
      case rel =>
        refine ⟨k + 1, by go_num, by omega, ⟨fun j => if j = q then true else sv j, (hs.set q (.bool true)).congr (fun j hj => ?_), fun j hj => ?_⟩, hnx.setCell (Nat.le_refl _) _⟩
        · by_cases e : j = q
          · simp [e]
          · simp [e]
        · by_cases e : j = q
          · exact ⟨k, by omega, by rw [HQ.out, e]⟩
          · simp only [if_neg e] at hj
            obtain ⟨i, hi, e2⟩ := HS.out j hj
            exact ⟨i, by omega, e2⟩
      case measure => simp [intOf]; omega
    · go_wp2
      go_ret
      exact ⟨rfl, hnx⟩

/-- A slice of int32s that reads as 'z'. -/
structure FlatAt (w : World) (a : Option Addr) (z : List Int) : Prop where
  cell : ∀ k, k < z.length → ∃ x : Addr, a = some x ∧ w.cell? (x.add k) = some (.int .i32 (z.getD k 0))

set_option maxHeartbeats 1000000 in
set_option maxRecDepth 100000 in
theorem same_any (a b : Option Addr) (c1 c2 : Nat) (z : List Int) (w : World) (hl : z.length ≤ 1048576) (ha : FlatAt w a z) (hb : FlatAt w b z) :
    Calls Try.prog 9 #[.slice a z.length c1, .slice b z.length c2] w fun e w' => e = .returned (.bool true) ∧ ∃ m, w' = w.drewN m := by
  generalize hz : z.length = L at hl
  have HZ : Hid _ := hz
  clear hz
  go_enter Try.func9, Try.ntmps9
  go_wp2
  go_loopw [5] (fun y wr => ∃ k : Nat, y = .int .i64 k ∧ k ≤ L ∧ Same w wr ∧ ∃ m, wr = w.drewN m) (fun y _ => L - (intOf y).toNat)
  case atStart => exact ⟨0, rfl, Nat.zero_le _, Same.refl _, 0, rfl⟩
  case round =>
    obtain ⟨k, rfl, hk, hsame, m, hm⟩ := hrel
    have HM : Hid _ := hm
    clear hm
    by_cases hlt : k < L
    · obtain ⟨x, rfl, hcx⟩ := ha.cell k (by rw [HZ.out]; exact hlt)
      obtain ⟨y, rfl, hcy⟩ := hb.cell k (by rw [HZ.out]; exact hlt)
      have hcx' := (hsame.cell _).trans hcx
      have hcy' := (hsame.cell _).trans hcy
      generalize z.getD k 0 = q at hcx' hcy'
      clear hcx hcy
      have h1 : (0 : Int) ≤ (k : Int) := by omega
      have h2 : (k : Int) < (L : Int) := by omega
      have hq : (q != q) = false := by simp
      go_wp2
      go_quiet (fail)
      go_wp2
      refine ⟨⟨k + 1, by go_num, by omega, hsame.trans (Same.drewN _ _), m + nq, ?_⟩, by simp [intOf]; omega⟩
      rw [HM.out, World.drewN_drewN]
    · go_wp2
      go_ret
      exact ⟨rfl, m, HM.out⟩
end Go.Proofs.Qxb6613158a
