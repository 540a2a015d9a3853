/-
  THE WALKS of sortedImports$1 (23) and sortedImports (18).
-/
import Derived.Test.Qxb6613158aFiles
import Derived.Test.Qxb6613158aSortSt
namespace Go.Proofs.Qxb6613158a
open Go.RowKit
set_option linter.unusedSimpArgs false
set_option linter.unusedVariables false
variable {w W : World} {n : Nat} {sp fp mp : Nat → Nat} {N : Nat → ByteArray} {deg : Nat → Nat} {ip A : Nat → Nat → Nat}

/-- What compareFiles answers. -/
def cmpv (N : Nat → ByteArray) (i j : Nat) : Int := if i = j then 0 else or3 (Lib.compareBytes (N i).data.toList (N j).data.toList) (Lib.compareBytes (N i).data.toList (N j).data.toList) (Lib.compareInt i j)

theorem KeptBy.files (h : Files W n sp fp mp N deg ip A) (p : KeptBy W) : Files p.world n sp fp mp N deg ip A := h.below (p.kept.below (Nat.le_refl _) (fun x hx => hx.elim))

theorem Files.lookup (h : Files W n sp fp mp N deg ip A) {i k : Nat} (hi : i < n) (hk : k < deg i) :
    (Instr.lookup 68 (.map (some (mp i))) (.pointer (some ⟨ip i k, 0, none⟩)) false).run Try.prog W = .ok (.pointer (some ⟨sp (A i k), 0, none⟩)) W :=
  run_lookup_ptr W (mp i) (deg i) (deg i) (ip i) (fun k => sp (A i k)) (h.map i hi) (fun j hj => h.imp i j hi hj) (fun j k hj hk e => h.ipInj i j k hi hj hk e) k hk

set_option maxHeartbeats 2000000 in
set_option maxRecDepth 100000 in
theorem less_imports (h : Files W n sp fp mp N deg ip A) (i j k bx : Nat) (hi : i < n) (hj : j < deg i) (hk : k < deg i) (hbx : W.cell? ⟨bx, 0, none⟩ = some (.pointer (some ⟨sp i, 0, none⟩))) :
    Calls Try.prog 23 #[.pointer (some ⟨ip i j, 0, none⟩), .pointer (some ⟨ip i k, 0, none⟩), .pointer (some ⟨bx, 0, none⟩)] W fun e w' => e = .returned (.int .i64 (cmpv N (A i j) (A i k))) ∧ Kept noS W w' := by
  have c1 := fun p : KeptBy W => p.cell hbx
  have c2 := fun p : KeptBy W => p.cell (h.targets i hi)
  have l1 := fun p : KeptBy W => (p.files h).lookup hi hj
  have l2 := fun p : KeptBy W => (p.files h).lookup hi hk
  have hc : ∀ p : KeptBy W, Calls Try.prog 24 #[.pointer (some ⟨sp (A i j), 0, none⟩), .pointer (some ⟨sp (A i k), 0, none⟩)] p.world fun e w'' => e = .returned (.int .i64 (cmpv N (A i j) (A i k))) ∧ ∃ p' : KeptBy W, w'' = p'.world := fun p => KeptBy.call (compare_any (p.files h) (A i j) (A i k) (h.adj i j hi hj) (h.adj i k hi hk))
  have hne : Nonempty (KeptBy W) := KeptBy.ne W
  clear h
  generalize cmpv N (A i j) (A i k) = cv at *
  generalize ip i j = pj at *
  generalize ip i k = pk at *
  generalize mp i = mi at *
  generalize sp i = si at *
  go_enter Try.func23, Try.ntmps23
  go_wp2
  refine wp_region_quiet_kept (by kernel_rfl) (by kernel_rfl) ?_
  repeat (quiet_step ((go_at_call 24; exact hc _)))
  refine wpQuiet_nil ?_
  intro W2 h2
  have hW2 := KeptBy.out h2
  clear h2
  go_wp2
  go_ret
  exact ⟨rfl, hW2⟩

theorem info71 : (Try.prog.info? 71).map (fun i => (i.zero, i.size, i.bytes)) = some (some (.pointer none), 1, 8) := by kernel_rfl

/-- The imports in some order, as a slice. -/
structure ImpsAt (w : World) (v : Value) (d : Nat) (ipi : Nat → Nat) (Q : Nat → Nat) : Prop where
  val : ∃ a c, v = .slice a d c ∧ ∀ k, k < d → ∃ x : Addr, a = some x ∧ w.cell? (x.add k) = some (.pointer (some ⟨ipi (Q k), 0, none⟩))
  into : ∀ k, k < d → Q k < d
  onto : ∀ j, j < d → ∃ k, k < d ∧ Q k = j

theorem imps_nil (w : World) (ipi : Nat → Nat) : ImpsAt w (.slice none 0 0) 0 ipi (fun k => k) :=
  ⟨⟨none, 0, rfl, fun k hk => absurd hk (Nat.not_lt_zero k)⟩, fun k hk => hk, fun j hj => absurd hj (Nat.not_lt_zero j)⟩

/-- The row that the appends left, as a world of the sort's. -/
theorem sw_of_owns {w : World} {B g cap d : Nat} {F : Nat → Option Addr} (h : w.ownsRow B 71 1 (.slice (some ⟨g, 0, none⟩) d cap) d ((List.range d).map fun j => Value.pointer (F j))) : RowP w g cap d F ∧ d ≤ cap := by
  obtain ⟨h1, h2⟩ := h
  rcases h2 with ⟨h2, _⟩ | ⟨g', cap', cur, hv, hb, hh, hn, hc, hsz, htk⟩
  · cases h2
  · cases hv
    refine ⟨⟨fun j => (cur[j]?).getD default, ⟨cur, hh, by omega, fun i hi => ?_⟩, hn, fun j hj => ?_⟩, hn⟩
    · show cur[i]? = some ((cur[i]?).getD default)
      rw [Array.getElem?_eq_getElem (by omega)]; rfl
    · have e := congrArg (fun l => l[j]?) htk
      simp only [Nat.mul_one] at e
      rw [List.getElem?_take_of_lt hj, Array.getElem?_toList] at e
      show (cur[j]?).getD default = _
      rw [e]
      simp [hj]

theorem own_ge {w : World} {B n sz : Nat} {e : TypeId} {v : Value} {xs : List Value} (h : w.ownsRow B e sz v n xs) (q : Nat) (hq : v.ownBlock = some q) : B ≤ q := by
  rcases h.2 with ⟨h1, _⟩ | ⟨g, cap, cur, hv, hb, _⟩
  · rw [h1] at hq; cases hq
  · rw [hv] at hq
    have : g = q := by simpa [Value.ownBlock] using hq
    omega

set_option maxHeartbeats 4000000 in
set_option maxRecDepth 100000 in
theorem sortedImports_any (wF : World) (h : Files wF n sp fp mp N deg ip A) (hB : Below wF.heap.size wF w) (i : Nat) (hi : i < n) (hd : deg i ≤ 1048576) :
    Calls Try.prog 18 #[.pointer (some ⟨sp i, 0, none⟩)] w fun e w' => (∃ v Q, e = .returned v ∧ ImpsAt w' v (deg i) (ip i) Q) ∧ Kept noS w w' := by
  obtain ⟨i0, hi0, hz0, hz1, hz2⟩ := info_parts info71
  obtain ⟨a0, c0, hall, helem⟩ := h.all i hi
  have hF : Hid (Files wF n sp fp mp N deg ip A) := h
  have HEL : Hid _ := helem
  have e1 := (hB.cell (block_lt_of_cell (h.file i hi))).trans (h.file i hi)
  have e2 := (hB.cell (block_lt_of_cell hall)).trans hall
  have HB : Hid (Below wF.heap.size wF w) := hB
  have l1 := block_lt_of_cell e1
  have l2 := block_lt_of_cell e2
  clear h helem hB hall
  go_enter Try.func18, Try.ntmps18
  go_wp2
  go_loopw [3, 14] (fun v z wr => ∃ k : Nat, z = .int .i64 k ∧ k ≤ deg i ∧ (k = 0 → v = .slice none 0 0) ∧ wr.ownsRow (w.heap.size + 1) 71 1 v k ((List.range k).map fun j => Value.pointer (some ⟨ip i j, 0, none⟩)) ∧ wr.cell? ⟨w.heap.size, 0, none⟩ = some (.pointer (some ⟨sp i, 0, none⟩)) ∧ Kept noS w wr) (fun _ z _ => deg i - (intOf z).toNat)
  case atStart => exact ⟨0, rfl, Nat.zero_le _, fun _ => rfl, ⟨rfl, .inl ⟨rfl, rfl⟩⟩, by simp, (Kept.refl _ _).alloc _⟩
  case round =>
    obtain ⟨k, rfl, hk, hnil, hown, hbxc, hkw⟩ := hrel
    have hwF := HB.out.size
    have hBr : Below wF.heap.size wF wr := HB.out.trans (hkw.below hwF (fun x hx => hx.elim))
    have HBR : Hid _ := hBr
    have HFr : Hid (Files wr n sp fp mp N deg ip A) := hF.out.below hBr
    clear hBr
    by_cases hlt : k < deg i
    · obtain ⟨x, hx, hcx⟩ := HEL.out k hlt
      subst hx
      have hcell := (HBR.out.cell (block_lt_of_cell hcx)).trans hcx
      have hlook := HFr.out.lookup hi hlt
      have ht := HFr.out.targets i hi
      have hsz := hkw.size
      have hbs := block_lt_of_cell hbxc
      have hb2 : w.heap.size + 1 ≤ wr.heap.size := hbs
      clear hcx
      go_wp2_with (at_builtin; refine wpList_append_own _ rfl _ _ 46 rfl (w.heap.size + 1) 71 i0 (.pointer none) 1 8 Try.underlying46 hi0 hz0 hz1 hz2 rfl (by decide) _ _ _ rfl (hown.alloc _) ⟨wr.heap.size, 0, none⟩ 1 1 [.pointer (some ⟨ip i k, 0, none⟩)] rfl rfl ?c1 ?c2 ?c3 ?c4 ?c5 ?_)
      case c2 => rfl
      case c3 => unfold maxLen; omega
      case c4 => omega
      intro v' w2 hown' hgrow _
      go_wp2
      go_roundw
      case rel =>
        have hob : ∀ q, Value.ownBlock _ = some q → w.heap.size + 1 ≤ q := own_ge hown
        refine ⟨k + 1, by go_num, by omega, fun h => absurd h (by omega), by rw [List.range_succ, List.map_append]; exact hown', ?_, (hkw.alloc _).grown hgrow (fun q hq => .inr (by have := hob q hq; omega))⟩
        have h1 : w2.heap[w.heap.size]? = (wr.alloc _).heap[w.heap.size]? := hgrow.block w.heap.size (by simp; omega) (fun e => by have := hob w.heap.size e.symm; omega)
        have h2 : w2.cell? ⟨w.heap.size, 0, none⟩ = (wr.alloc _).cell? ⟨w.heap.size, 0, none⟩ := World.cell?_of_block h1
        rw [h2, World.cell?_alloc_lt _ _ _ hbs]
        exact hbxc
      case measure => simp [intOf]; omega
    · obtain rfl : k = deg i := by omega
      by_cases hd0 : deg i = 0
      · have hv := hnil hd0
        subst hv
        go_wp2_with (go_at_call 22; refine (sortStable_none _ _).mono ?_; rintro _ w2 ⟨rfl, rfl⟩)
        go_ret
        refine ⟨⟨_, fun k => k, rfl, ?_⟩, hkw⟩
        rw [hd0]
        exact imps_nil _ _
      · obtain ⟨g, cap, hv, hbg, hglt⟩ := owns_some hown (by omega)
        subst hv
        obtain ⟨hrow, hcap⟩ := sw_of_owns hown
        have hS : SW wr g cap (deg i) (fun j => some ⟨ip i j, 0, none⟩) wr := ⟨Kept.refl _ _, _, hrow, SetEq.refl _ _⟩
        have hC : CmpOk wr g (deg i) (fun j => some ⟨ip i j, 0, none⟩) (.pointer (some ⟨w.heap.size, 0, none⟩)) := ⟨fun j k hj hk => ⟨cmpv N (A i j) (A i k), fun W hW =>
          less_imports (hF.out.below (HBR.out.trans (hW.below HBR.out.size (fun x hx => by rw [hx]; omega)))) i j k w.heap.size hi hj hk (hW.cell hbxc (by show ¬ w.heap.size = g; omega))⟩⟩
        have HC : Hid _ := hC
        have HS : Hid _ := hS
        clear hC hS hrow
        have hkg : ∀ W, Kept (fun b => b = g) wr W → Kept noS w W := fun W hW => hkw.trans hW (fun x hx => .inr (by rw [hx]; omega))
        have HKG : Hid _ := hkg
        clear hkg
        go_wp2_with (go_at_call 22; refine (sortStable_any cap _ HC.out HS.out hcap hd).mono ?_; rintro _ w2 ⟨rfl, hS2⟩)
        go_ret
        obtain ⟨hk2, F, hr2, hse⟩ := hS2
        have hex : ∀ k, k < deg i → ∃ j, j < deg i ∧ F k = some ⟨ip i j, 0, none⟩ := fun k hk => by
          obtain ⟨j, hj, e⟩ := (hse (F k)).1 ⟨k, hk, rfl⟩
          exact ⟨j, hj, e.symm⟩
        refine ⟨⟨_, fun k => if hk : k < deg i then Classical.choose (hex k hk) else 0, rfl, ⟨⟨some ⟨g, 0, none⟩, cap, rfl, fun k hk => ⟨_, rfl, ?_⟩⟩, fun k hk => ?_, fun j hj => ?_⟩⟩, HKG.out _ hk2⟩
        · rw [addr_add, Nat.zero_add, hr2.cell hk, dif_pos hk, ← (Classical.choose_spec (hex k hk)).2]
        · rw [dif_pos hk]; exact (Classical.choose_spec (hex k hk)).1
        · obtain ⟨k, hk, e⟩ := (hse (some ⟨ip i j, 0, none⟩)).2 ⟨j, hj, rfl⟩
          refine ⟨k, hk, ?_⟩
          rw [dif_pos hk]
          have h1 := (Classical.choose_spec (hex k hk)).2
          have h1 := e.symm.trans h1
          exact (hF.out.ipInj i j _ hi hj (Classical.choose_spec (hex k hk)).1 (congrArg Addr.block (Option.some.inj h1))).symm
end Go.Proofs.Qxb6613158a
