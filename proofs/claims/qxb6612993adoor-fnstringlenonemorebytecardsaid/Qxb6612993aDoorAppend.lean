/-
  THE WALKS of what bencode.stringLen comes to: internal/strconv.AppendUint (11), AppendInt (10), strconv.AppendInt (9), decimalLen (8), stringLen (7), ZZStringLen (6): how long what they make is. The digits land in a local array of 20 bytes, which has room for them.
-/
import Derived.Test.Qxb6612993aDoorRows
import Derived.Test.Qxb6612993aDoorShelf
import Derived.Shelf.Strconv.AppendUint10
import Derived.Lib.JoinLaws
import Derived.Lib.ItoaLen
import Derived.Lib.Hide
import Derived.Deep.OwnRows
import Derived.WalkKit
import Derived.WalkSpells
import Derived.WalkLawsBesides
namespace Go.Proofs.Qxb6612993aDoor
open Go.Shelf Go.RowKit Go.Sort Go.Lib
set_option linter.unusedSimpArgs false
set_option linter.unusedVariables false

/-- The name of the table that numDigits reads, off the row's own list. -/
def tabName : String := Rows.fnStringLenOneMoreByteRow.named.headD default

theorem small_at (i : Nat) (h : i < 100) (w : World) :
    Calls Tryd.prog 12 #[.int .i64 i] w fun e w' => e = .returned (.string ⟨(Lib.decDigits i).toArray⟩) ∧ w' = w := Any.internal_strconv_small Tryd.lays283 i h w

theorem numDigits_at (u : Nat) (h1 : 1 ≤ u) (h2 : u < 18446744073709551616) (w : World) (htab : Lib.TabIs Tryd.prog w tabName .u64 Lib.pow10Tab) :
    Calls Tryd.prog 13 #[.int .u64 u] w fun e w' => e = .returned (.int .i64 (Lib.nDigits u)) ∧ w' = w := Any.internal_strconv_numDigits Tryd.laysM284 u h1 h2 w htab

theorem formatBase10_at (blk off cap : Nat) (u : Nat) (d : Array UInt8) (w : World) (hH : Holds (fun (b : UInt8) => Value.int .u8 (b.toNat : Int)) w blk off d) (hu : u < 10 ^ d.size) (hu64 : u < 18446744073709551616) (hsz : d.size < 4611686018427387904) :
    Calls Tryd.prog 14 #[.slice (some ⟨blk, off, none⟩) d.size cap, .int .u64 u] w fun e w' =>
      e = .returned (.tuple #[]) ∧ ∃ (n v' : Nat) (dk : Array UInt8), w' = (putRow (fun (b : UInt8) => Value.int .u8 (b.toNat : Int)) w blk off dk).drewN n ∧ FmtInv d.size u 0 v' dk := Any.internal_strconv_formatBase10 Tryd.lays285 blk off cap u d w hH hu hu64 hsz

theorem info5 : (Tryd.prog.info? 5).map (fun i => (i.zero, i.size, i.bytes)) = some (some (.int .u8 0), 1, 1) := by kernel_rfl

theorem below_setCells (B b : Nat) (hB : B ≤ b) : ∀ (vs : List Value) (o : Nat) (w w0 : World), Below B w0 w → Below B w0 (w.setCells b o vs)
  | [], _, _, _, h => h
  | v :: r, o, w, w0, h => below_setCells B b hB r (o + 1) _ w0 (h.setCell hB v)

set_option maxHeartbeats 6400000 in
set_option maxRecDepth 100000 in
theorem appendUint_small (g u : Nat) (hu : u < 100) (w : World) (f : Nat → Value) (hrow : w.rowIs g 27 20 f) :
    Calls Tryd.prog 11 #[.slice (some ⟨g, 0, none⟩) 0 20, .int .u64 u, .int .i64 10] w fun e w' => e = .returned (.slice (some ⟨g, 0, none⟩) (Lib.nDigits u) 20) ∧ Below g w w' := by
  have hnd : Lib.nDigits u ≤ 20 := Lib.nDigits_le20 u (by omega)
  have hlen := Lib.decDigits_length u
  have hsz : (⟨(Lib.decDigits u).toArray⟩ : ByteArray).size = Lib.nDigits u := by simp [ByteArray.size, hlen]
  go_enter Tryd.func11, Tryd.ntmps11
  have hc : ∀ (n j : Nat), n ≤ 20 → j < n → (w.cell? ⟨g, 0 + 0 + j, none⟩).isSome = true := fun n j hn hj => by rw [show 0 + 0 + j = j by omega, hrow.cell (by omega)]; rfl
  have hf : ∀ (n j : Nat), j < n → w.frozen? ⟨g, 0 + 0 + j, none⟩ = false := fun n j hj => hrow.frozen _
  have HC : Hid _ := hc
  have HF : Hid _ := hf
  clear hc hf
  have HS : Hid _ := hsz
  clear hsz
  go_wp2_with (first | (go_at_call 12; refine (small_at u hu _).mono ?_; rintro e w' ⟨rfl, rfl⟩) | (at_builtin; refine wpList_append_room1 _ rfl _ _ 23 9 rfl 5 (.int .u8 0) 1 Tryd.underlying23 info5 g 0 0 20 rfl (.string ⟨(Lib.decDigits u).toArray⟩) rfl _ _ (Src.ofString _ Tryd.underlying9 _) ?c1 ?c2 ?c3 ?_))
  case c1 => rw [HS.out]; omega
  case c2 => intro j hj; exact HC.out _ j (by rw [byteCells_length, HS.out] at hj; exact hnd) (by rw [byteCells_length, HS.out] at hj; exact hj)
  case c3 => intro j hj; exact HF.out _ j hj
  go_wp2
  go_ret
  exact ⟨rfl, below_setCells g g (Nat.le_refl _) _ _ _ _ (Below.refl _ _)⟩

set_option maxHeartbeats 12800000 in
set_option maxRecDepth 100000 in
theorem appendUint_big (g u : Nat) (hu : 100 ≤ u) (hu64 : u < 18446744073709551616) (w : World) (f : Nat → Value) (hrow : w.rowIs g 27 20 f) (htab : Lib.TabIs Tryd.prog w tabName .u64 Lib.pow10Tab) :
    Calls Tryd.prog 11 #[.slice (some ⟨g, 0, none⟩) 0 20, .int .u64 u, .int .i64 10] w fun e w' => e = .returned (.slice (some ⟨g, 0, none⟩) (Lib.nDigits u) 20) ∧ Below g w w' := by
  have hu1 : 1 ≤ u := by omega
  have hnd20 : Lib.nDigits u ≤ 20 := Lib.nDigits_le20 u hu64
  have hal : Tryd.prog.arrayLen 32 = 24 := by kernel_rfl
  have hglt := hrow.lt
  have hsl : ∀ W, (Instr.sliceAt 32 (.pointer (some ⟨w.heap.size, 0, none⟩)) none (some (.int .i64 (Lib.nDigits u : Int))) none).run Tryd.prog W = .ok (.slice (some ⟨w.heap.size, 0, none⟩) (Lib.nDigits u) 24) W := fun W => by
    rw [run_sliceAt_array_h W 32 ⟨w.heap.size, 0, none⟩ (by kernel_rfl) .i64 (Lib.nDigits u : Int) (by omega) (by rw [hal]; omega)]
    go_simp
  have hH0 := Lib.holds_zero0 w 32 (Lib.nDigits u) (by omega)
  have hfmt := formatBase10_at w.heap.size 0 24 u (Array.replicate (Lib.nDigits u) 0) (w.alloc (.cells Lib.zeros24 32)) hH0 (by rw [Array.size_replicate]; exact Lib.lt_pow_nDigits u) hu64 (by rw [Array.size_replicate]; omega)
  rw [Array.size_replicate] at hfmt
  have HH0 := Lib.hid hH0
  have HF := Lib.hid hfmt
  have iu : (100 : Int) ≤ (u : Int) := by omega
  clear hH0 hal hfmt
  go_enter Tryd.func11, Tryd.ntmps11
  go_wp2_with (go_at_call 13; refine (numDigits_at u hu1 hu64 _ (Lib.tabIs_alloc htab _)).mono ?_; rintro e w' ⟨rfl, rfl⟩)
  refine HF.out.mono ?_
  rintro e w' ⟨rfl, k, v', dk, rfl, hF⟩
  have hcells : ∀ j u', (Lib.byteCells (Lib.decDigits u))[j]? = some u' → ((putRow (fun (b : UInt8) => Value.int .u8 (b.toNat : Int)) (w.alloc (.cells Lib.zeros24 32)) w.heap.size 0 dk).drewN k).cell? ((⟨w.heap.size, 0, none⟩ : Addr).add j) = some u' := by
    intro j u' hj
    have hjl : j < (Lib.decDigits u).length := by
      have h5 := (List.getElem?_eq_some_iff.1 hj).1
      rwa [Lib.byteCells_length] at h5
    have e5 : (Lib.byteCells (Lib.decDigits u))[j]? = some (Value.int .u8 ((Lib.decDigits u)[j].toNat : Int)) := by simp [Lib.byteCells, hjl]
    rw [e5] at hj
    cases hj
    rw [Lib.row_is_numeral hF j hjl, Lib.add_plain, World.cell?_drewN]
    exact cell?_putRow (fun (b : UInt8) => Value.int .u8 (b.toNat : Int)) _ w.heap.size 0 _ dk HH0.out (by rw [hF.size, Array.size_replicate]) j (by rw [hF.size]; rw [Lib.decDigits_length] at hjl; exact hjl)
  obtain ⟨os, eo⟩ := Lib.fin_at w (.cells Lib.zeros24 32) dk k 0
  have hnx2 : Below w.heap.size w ((putRow (fun (b : UInt8) => Value.int .u8 (b.toNat : Int)) (w.alloc (.cells Lib.zeros24 32)) w.heap.size 0 dk).drewN k) := by rw [eo]; exact Lib.below_grow w.heap.size w (Nat.le_refl _) k os
  generalize (putRow (fun (b : UInt8) => Value.int .u8 (b.toNat : Int)) (w.alloc (.cells Lib.zeros24 32)) w.heap.size 0 dk).drewN k = W2 at hcells hnx2 ⊢
  clear eo HH0 HF
  have hrow2 : W2.rowIs g 27 20 f := hrow.of_block (hnx2.block g hglt)
  have hlen : (Lib.byteCells (Lib.decDigits u)).length = Lib.nDigits u := by rw [Lib.byteCells_length, Lib.decDigits_length]
  have HL : Hid _ := hlen
  clear hlen
  have HCe : Hid _ := hcells
  clear hcells
  go_wp2_with (at_builtin; refine wpList_append_room1 _ rfl _ _ 23 23 rfl 5 (.int .u8 0) 1 Tryd.underlying23 info5 g 0 0 20 rfl _ rfl _ (Lib.byteCells (Lib.decDigits u)) (Src.ofSlice _ Tryd.underlying23 ⟨w.heap.size, 0, none⟩ (Lib.nDigits u) 24 _ ?c0 HCe.out ?c4) ?c1 ?c2 ?c3 ?_)
  case c0 => rw [HL.out, Nat.mul_one]
  case c4 => intro u' hu'; simp only [Lib.byteCells, List.mem_map] at hu'; obtain ⟨b, _, rfl⟩ := hu'; rfl
  case c1 => omega
  case c2 => intro j hj; rw [HL.out] at hj; rw [show 0 + 0 + j = j by omega, hrow2.cell (by omega)]; rfl
  case c3 => intro j hj; exact hrow2.frozen _
  go_wp2
  go_ret
  exact ⟨by simp, below_setCells g g (Nat.le_refl _) _ _ _ _ (hnx2.mono (Nat.le_of_lt hglt))⟩

theorem appendUint_any (g u : Nat) (hu64 : u < 18446744073709551616) (w : World) (f : Nat → Value) (hrow : w.rowIs g 27 20 f) (htab : Lib.TabIs Tryd.prog w tabName .u64 Lib.pow10Tab) :
    Calls Tryd.prog 11 #[.slice (some ⟨g, 0, none⟩) 0 20, .int .u64 u, .int .i64 10] w fun e w' => e = .returned (.slice (some ⟨g, 0, none⟩) (Lib.nDigits u) 20) ∧ Below g w w' := by
  by_cases h : u < 100
  · exact appendUint_small g u h w f hrow
  · exact appendUint_big g u (by omega) hu64 w f hrow htab

set_option maxRecDepth 100000 in
theorem appendInt_any (g u : Nat) (hu : u < 4611686018427387904) (w : World) (f : Nat → Value) (hrow : w.rowIs g 27 20 f) (htab : Lib.TabIs Tryd.prog w tabName .u64 Lib.pow10Tab) :
    Calls Tryd.prog 10 #[.slice (some ⟨g, 0, none⟩) 0 20, .int .i64 u, .int .i64 10] w fun e w' => e = .returned (.slice (some ⟨g, 0, none⟩) (Lib.nDigits u) 20) ∧ Below g w w' := by
  go_enter Tryd.func10, Tryd.ntmps10
  go_wp2_with (go_at_call 11; refine (appendUint_any g u (by omega) _ f hrow htab).mono ?_; rintro e w1 ⟨rfl, hb⟩)
  go_ret
  exact ⟨rfl, hb⟩

set_option maxRecDepth 100000 in
theorem pubAppendInt_any (g u : Nat) (hu : u < 4611686018427387904) (w : World) (f : Nat → Value) (hrow : w.rowIs g 27 20 f) (htab : Lib.TabIs Tryd.prog w tabName .u64 Lib.pow10Tab) :
    Calls Tryd.prog 9 #[.slice (some ⟨g, 0, none⟩) 0 20, .int .i64 u, .int .i64 10] w fun e w' => e = .returned (.slice (some ⟨g, 0, none⟩) (Lib.nDigits u) 20) ∧ Below g w w' := by
  go_enter Tryd.func9, Tryd.ntmps9
  go_wp2_with (go_at_call 10; refine (appendInt_any g u hu _ f hrow htab).mono ?_; rintro e w1 ⟨rfl, hb⟩)
  go_ret
  exact ⟨rfl, hb⟩

theorem row20 (w : World) : (w.alloc (.cells #[.int .u8 0, .int .u8 0, .int .u8 0, .int .u8 0, .int .u8 0, .int .u8 0, .int .u8 0, .int .u8 0, .int .u8 0, .int .u8 0, .int .u8 0, .int .u8 0, .int .u8 0, .int .u8 0, .int .u8 0, .int .u8 0, .int .u8 0, .int .u8 0, .int .u8 0, .int .u8 0] 27)).rowIs w.heap.size 27 20 (fun _ => .int .u8 0) :=
  World.rowIs_alloc w (Array.replicate 20 (.int .u8 0)) 27 (fun _ => .int .u8 0) (fun i hi => by rw [Array.size_replicate] at hi; simp [hi])

set_option maxRecDepth 100000 in
theorem decimalLen_any (u : Nat) (hu : u < 4611686018427387904) (w : World) (htab : Lib.TabIs Tryd.prog w tabName .u64 Lib.pow10Tab) :
    Calls Tryd.prog 8 #[.int .i64 u] w fun e w' => e = .returned (.int .i64 (Lib.nDigits u)) ∧ Below w.heap.size w w' := by
  go_enter Tryd.func8, Tryd.ntmps8
  go_wp2_with fail
  refine (pubAppendInt_any w.heap.size u hu _ (fun _ => .int .u8 0) (row20 w) (Lib.tabIs_alloc htab _)).mono ?_
  rintro e w1 ⟨rfl, hb⟩
  go_wp2
  go_ret
  exact ⟨rfl, ((Below.refl _ w).alloc (Nat.le_refl _) _).trans hb⟩

set_option maxRecDepth 100000 in
theorem stringLen_any (s : ByteArray) (hs : s.size ≤ 1048577) (w : World) (htab : Lib.TabIs Tryd.prog w tabName .u64 Lib.pow10Tab) :
    Calls Tryd.prog 7 #[.string s] w fun e w' => e = .returned (.int .i64 ((Lib.nDigits s.size : Nat) + 1 + (s.size : Nat))) ∧ Below w.heap.size w w' := by
  have hn := Lib.nDigits_le20 s.size (by omega)
  go_enter Tryd.func7, Tryd.ntmps7
  go_wp2_with fail
  refine (decimalLen_any s.size (by omega) w htab).mono ?_
  rintro e w1 ⟨rfl, hb⟩
  go_wp2
  go_ret
  exact ⟨rfl, hb⟩

set_option maxRecDepth 100000 in
theorem zzStringLen_any (s : ByteArray) (hs : s.size ≤ 1048577) (w : World) (htab : Lib.TabIs Tryd.prog w tabName .u64 Lib.pow10Tab) :
    Calls Tryd.prog 6 #[.string s] w fun e w' => e = .returned (.int .i64 ((Lib.nDigits s.size : Nat) + 1 + (s.size : Nat))) ∧ Below w.heap.size w w' := by
  go_enter Tryd.func6, Tryd.ntmps6
  go_wp2_with fail
  refine (stringLen_any s hs w htab).mono ?_
  rintro e w1 ⟨rfl, hb⟩
  go_wp2
  go_ret
  exact ⟨rfl, hb⟩
end Go.Proofs.Qxb6612993aDoor
