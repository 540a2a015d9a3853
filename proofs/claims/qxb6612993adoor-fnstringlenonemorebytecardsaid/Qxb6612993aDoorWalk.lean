/-
  THE WALK of 'FnStringLenOneMoreByte' (3): it returns true and writes nothing that was there.
-/
import Derived.Test.Qxb6612993aDoorAppend
import Derived.Test.Qxb6612993aDoorPow
import Derived.OpenShut
import Derived.Laws.IdiomStrings
namespace Go.Proofs.Qxb6612993aDoor
open Go.RowKit Go.Lib
set_option linter.unusedSimpArgs false
set_option linter.unusedVariables false

set_option maxRecDepth 100000 in
theorem zz (s : ByteArray) (c : Int) (hs : s.size ≤ maxLen) (w : World) :
    Calls Tryd.prog 4 #[.string s, .int .u8 c] w fun e w' => (∃ b, e = .returned (.bool b)) ∧ w' = w := by
  unfold maxLen at hs
  go_enter Tryd.func4, Tryd.ntmps4
  go_wp2
  all_goals
    go_ret
    exact ⟨⟨_, rfl⟩, rfl⟩

theorem len_at (t : ByteArray) (n : Nat) (hn : t.size = n) (hs : n ≤ 1048577) (w : World) (htab : Lib.TabIs Tryd.prog w tabName .u64 Lib.pow10Tab) :
    Calls Tryd.prog 6 #[.string t] w fun e w' => e = .returned (.int .i64 ((Lib.nDigits n : Nat) + 1 + (n : Nat))) ∧ Below w.heap.size w w' := by
  subst hn
  exact zzStringLen_any t hs w htab

theorem closes {w w3 w4 w5 : World} {o : Obj} (h3 : Below (w.alloc o).heap.size (w.alloc o) w3) (h4 : Below w3.heap.size w3 w4) (h5 : Below w4.heap.size w4 w5) : Below w.heap.size w w5 := by
  have e : w.heap.size ≤ (w.alloc o).heap.size := by simp
  have s3 := h3.size
  have s4 := h4.size
  exact ((((Below.refl _ w).alloc (Nat.le_refl _) o).trans (h3.mono e)).trans (h4.mono (by omega))).trans (h5.mono (by omega))

set_option maxHeartbeats 1000000 in
set_option maxRecDepth 100000 in
theorem walk (s : ByteArray) (c : Int) (hs : s.size ≤ maxLen) (hc : (Lit.int .u8 c).wf = true) (w : World) (htab : Lib.TabIs Tryd.prog w tabName .u64 Lib.pow10Tab) :
    Calls Tryd.prog 3 #[.string s, .int .u8 c] w fun e w' => e = .returned (.bool true) ∧ Below w.heap.size w w' := by
  have hs' := hs
  unfold maxLen at hs'
  obtain ⟨cb, rfl⟩ : ∃ cb : UInt8, c = (cb.toNat : Int) := by
    have hb := bounds_u8 hc
    exact ⟨UInt8.ofNat c.toNat, by simp; omega⟩
  have hcv : (convert 23 9 (.slice (some ⟨w.heap.size, 0, none⟩) 1 1)).run Tryd.prog (w.alloc (.cells #[.int .u8 (cb.toNat : Int)] 5)) = .ok (.string ⟨#[cb]⟩) (w.alloc (.cells #[.int .u8 (cb.toNat : Int)] 5)) :=
    run_convert_bytes_back (P := Tryd.prog) (w.alloc (.cells #[.int .u8 (cb.toNat : Int)] 5)) 23 9 5 ⟨w.heap.size, 0, none⟩ 1 [cb] Tryd.underlying23 Tryd.underlying5 Tryd.underlying9 (fun j hj => by
      have h0 : j = 0 := by simpa using hj
      subst h0
      simp [go_sem, Addr.add])
  go_enter Tryd.func3, Tryd.ntmps3
  go_wp2_with fail
  refine (zz s _ hs _).mono ?_
  rintro e w' ⟨⟨b, rfl⟩, rfl⟩
  cases b
  · go_wp2
    go_ret
    exact ⟨rfl, Below.refl _ _⟩
  by_cases h1 : 1048576 < s.size
  · go_wp2
    go_ret
    exact ⟨rfl, Below.refl _ _⟩
  have hsz : (s ++ ⟨#[cb]⟩ : ByteArray).size = s.size + 1 := by rw [ByteArray.size_append]; rfl
  have HZ : Hid _ := hsz
  clear hsz
  have hd0 : 1 ≤ Lib.nDigits s.size := Lib.nDigits_pos _
  have hd20 : Lib.nDigits s.size ≤ 20 := Lib.nDigits_le20 _ (by omega)
  go_wp2_with fail
  rw [show ((s.size : Int) + 1) = ((s.size + 1 : Nat) : Int) from by omega]
  refine (pow_any (s.size + 1) (by omega) _).mono ?_
  rintro e w2 ⟨hT, rfl⟩
  rcases hT with ⟨hp, rfl⟩ | ⟨hp, rfl⟩
  · have hg := grow_yes _ hp
    have HG : Hid _ := hg
    clear hp hg
    go_wp2_with fail
    refine (len_at (s ++ ⟨#[cb]⟩) (s.size + 1) HZ.out (by omega) _ (Lib.tabIs_alloc htab _)).mono ?_
    rintro e w3 ⟨rfl, hb3⟩
    rw [HG.out]
    have ht3 := (Lib.tabBelow_of_tabIs (Lib.tabIs_alloc htab _)) w3 hb3
    go_wp2_with fail
    refine (len_at s s.size rfl (by omega) _ ht3).mono ?_
    rintro e w4 ⟨rfl, hb4⟩
    have ht4 := (Lib.tabBelow_of_tabIs ht3) w4 hb4
    go_wp2_with fail
    refine (len_at s s.size rfl (by omega) _ ht4).mono ?_
    rintro e w5 ⟨rfl, hb5⟩
    go_wp2
    go_ret
    exact ⟨by simp; omega, closes hb3 hb4 hb5⟩
  · have hg := grow_no _ hp
    have HG : Hid _ := hg
    clear hp hg
    go_wp2_with fail
    refine (len_at (s ++ ⟨#[cb]⟩) (s.size + 1) HZ.out (by omega) _ (Lib.tabIs_alloc htab _)).mono ?_
    rintro e w3 ⟨rfl, hb3⟩
    rw [HG.out]
    have ht3 := (Lib.tabBelow_of_tabIs (Lib.tabIs_alloc htab _)) w3 hb3
    go_wp2_with fail
    refine (len_at s s.size rfl (by omega) _ ht3).mono ?_
    rintro e w4 ⟨rfl, hb4⟩
    have ht4 := (Lib.tabBelow_of_tabIs ht3) w4 hb4
    go_wp2_with fail
    refine (len_at s s.size rfl (by omega) _ ht4).mono ?_
    rintro e w5 ⟨rfl, hb5⟩
    go_wp2
    go_ret
    exact ⟨by simp; omega, closes hb3 hb4 hb5⟩
end Go.Proofs.Qxb6612993aDoor
