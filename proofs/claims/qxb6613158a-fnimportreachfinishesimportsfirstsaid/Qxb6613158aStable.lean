/-
  slices.SortStableFunc AT THE IMPORTS' POINTERS: ITS WORLD, AND THE WALKS of swapRange (59) and insertionSort (37). ASKED OF THE TEST: it returns some number, the same in whatever world; IT MAY LAY BLOCKS.
-/
import Derived.Test.Qxb6613158aKept
import Derived.Deep.LoopGhost
import Derived.BigRegion
namespace Go.Proofs.Qxb6613158a
open Go.RowKit
set_option linter.unusedSimpArgs false
set_option linter.unusedVariables false

/-- A world in which all that w holds stands as it stood (ONE word for 'go_quiet's class). -/
structure KeptBy (w : World) where
  world : World
  kept : Kept noS w world

theorem KeptBy.ne (w : World) : Nonempty (KeptBy w) := ⟨⟨w, Kept.refl _ _⟩⟩

theorem KeptBy.out {w W : World} (h : ∃ p : KeptBy w, W = p.world) : Kept noS w W := by
  obtain ⟨p, rfl⟩ := h
  exact p.kept

theorem wp_region_quiet_kept {P : Program} {id : Nat} {Q : Exit → Act → World → Prop} {a : Act} {w : World} {l : List Oper} (hm : P.follows .mixedOrders = true) (hB : Region.lexB .any l.toArray = true)
    (h : wpQuiet P l.toArray (fun w' => ∃ p : KeptBy w, w' = p.world) (fun a' => ∀ w', (∃ p : KeptBy w, w' = p.world) → Q .normal a' w') l a) : (Code.region id l.toArray true).wp P Q a w :=
  wp_region_quiet (C := fun w' => ∃ p : KeptBy w, w' = p.world) hm hB ⟨⟨w.drew, Kept.drewN _ _ 1⟩, rfl⟩ (by simpa using h)

theorem KeptBy.call {P : Program} {f : FuncId} {args : Array Value} {w : World} {v : Value} {p : KeptBy w} (h : Calls P f args p.world fun e w' => e = .returned v ∧ Kept noS p.world w') :
    Calls P f args p.world fun e w'' => e = .returned v ∧ ∃ p' : KeptBy w, w'' = p'.world :=
  h.mono fun _ w' ⟨he, hk⟩ => ⟨he, ⟨w', p.kept.trans hk (fun x hx => hx.elim)⟩, rfl⟩

/-- The same things in the first n cells. -/
def SetEq (n : Nat) (F F' : Nat → Option Addr) : Prop := ∀ v, (∃ j, j < n ∧ F' j = v) ↔ (∃ j, j < n ∧ F j = v)

theorem SetEq.refl (n : Nat) (F : Nat → Option Addr) : SetEq n F F := fun _ => Iff.rfl

/-- Two cells exchanged. -/
def swapF (F : Nat → Option Addr) (i j : Nat) : Nat → Option Addr := fun k => if k = j then F i else if k = i then F j else F k

theorem SetEq.swap {n : Nat} {F0 F : Nat → Option Addr} (h : SetEq n F0 F) {i j : Nat} (hi : i < n) (hj : j < n) : SetEq n F0 (swapF F i j) := by
  intro v
  rw [← h v]
  constructor
  · rintro ⟨k, hk, e⟩
    unfold swapF at e
    by_cases e1 : k = j
    · rw [if_pos e1] at e; exact ⟨i, hi, e⟩
    · rw [if_neg e1] at e
      by_cases e2 : k = i
      · rw [if_pos e2] at e; exact ⟨j, hj, e⟩
      · rw [if_neg e2] at e; exact ⟨k, hk, e⟩
  · rintro ⟨k, hk, e⟩
    by_cases e1 : k = i
    · exact ⟨j, hj, by unfold swapF; rw [if_pos rfl, ← e1]; exact e⟩
    · by_cases e2 : k = j
      · by_cases e3 : i = j
        · exact absurd (e2.trans e3.symm) e1
        · exact ⟨i, hi, by unfold swapF; rw [if_neg e3, if_pos rfl, ← e2]; exact e⟩
      · exact ⟨k, hk, by unfold swapF; rw [if_neg e2, if_neg e1]; exact e⟩

/-- Block g is a row of pointers; of its first n it is known which. -/
def RowP (W : World) (g cap n : Nat) (F : Nat → Option Addr) : Prop := ∃ f : Nat → Value, W.rowIs g 71 cap f ∧ n ≤ cap ∧ ∀ j, j < n → f j = .pointer (F j)

theorem RowP.cell {W : World} {g cap n : Nat} {F : Nat → Option Addr} (h : RowP W g cap n F) {i : Nat} (hi : i < n) : W.cell? ⟨g, i, none⟩ = some (.pointer (F i)) := by
  obtain ⟨f, hr, hn, hf⟩ := h
  rw [hr.cell (by omega), hf i hi]

theorem RowP.frozen {W : World} {g cap n : Nat} {F : Nat → Option Addr} (h : RowP W g cap n F) (i : Nat) : W.frozen? ⟨g, i, none⟩ = false := by
  obtain ⟨f, hr, hn, hf⟩ := h
  exact hr.frozen i

theorem RowP.set {W : World} {g cap n : Nat} {F : Nat → Option Addr} (h : RowP W g cap n F) (i : Nat) (u : Option Addr) : RowP (W.setCell ⟨g, i, none⟩ (.pointer u)) g cap n (fun j => if j = i then u else F j) := by
  obtain ⟨f, hr, hn, hf⟩ := h
  exact ⟨_, hr.set i (.pointer u), hn, fun j hj => by
    show (if j = i then Value.pointer u else f j) = Value.pointer (if j = i then u else F j)
    by_cases e : j = i
    · rw [if_pos e, if_pos e]
    · rw [if_neg e, if_neg e]; exact hf j hj⟩

theorem RowP.of_block {W W' : World} {g cap n : Nat} {F : Nat → Option Addr} (h : RowP W g cap n F) (hb : W'.heap[g]? = W.heap[g]?) : RowP W' g cap n F := by
  obtain ⟨f, hr, hn, hf⟩ := h
  exact ⟨f, hr.of_block hb, hn, hf⟩

theorem RowP.lt {W : World} {g cap n : Nat} {F : Nat → Option Addr} (h : RowP W g cap n F) : g < W.heap.size := by
  obtain ⟨f, hr, hn, hf⟩ := h
  exact hr.lt

theorem Kept.rowP {S : Nat → Prop} {w w' : World} {g cap n : Nat} {F : Nat → Option Addr} (h : Kept S w w') (hr : RowP w g cap n F) (hg : ¬ S g) : RowP w' g cap n F := hr.of_block (h.block g hr.lt hg)

theorem RowP.congr {W : World} {g cap n : Nat} {F F' : Nat → Option Addr} (h : RowP W g cap n F) (he : ∀ j, j < n → F j = F' j) : RowP W g cap n F' := by
  obtain ⟨f, hr, hn, hf⟩ := h
  exact ⟨f, hr, hn, fun j hj => by rw [hf j hj, he j hj]⟩

/-- A world of the sort's. -/
structure SW (w0 : World) (g cap n : Nat) (F0 : Nat → Option Addr) (W : World) : Prop where
  kept : Kept (fun b => b = g) w0 W
  row : ∃ F, RowP W g cap n F ∧ SetEq n F0 F

/-- What is asked of the test. -/
structure CmpOk (w0 : World) (g n : Nat) (F0 : Nat → Option Addr) (bx : Value) : Prop where
  call : ∀ i j, i < n → j < n → ∃ c : Int, ∀ W, Kept (fun b => b = g) w0 W → Calls Try.prog 23 #[.pointer (F0 i), .pointer (F0 j), bx] W fun e w' => e = .returned (.int .i64 c) ∧ Kept noS W w'

variable {w0 W W' : World} {g cap n : Nat} {F0 F : Nat → Option Addr} {bx : Value}

theorem SW.more (h : SW w0 g cap n F0 W) (hk : Kept noS W W') : SW w0 g cap n F0 W' := by
  obtain ⟨k, F, hr, hs⟩ := h
  exact ⟨k.trans hk (fun x hx => hx.elim), F, hk.rowP hr (fun h => h), hs⟩

theorem KeptBy.sw {p : KeptBy W} (h : SW w0 g cap n F0 W) : SW w0 g cap n F0 p.world := h.more p.kept

/-- The test's call in every world of the region's class. -/
theorem CmpOk.at (hc : CmpOk w0 g n F0 bx) (hk : Kept (fun b => b = g) w0 W) (hs : SetEq n F0 F) {i j : Nat} (hi : i < n) (hj : j < n) :
    ∃ c : Int, ∀ p : KeptBy W, Calls Try.prog 23 #[.pointer (F i), .pointer (F j), bx] p.world fun e w'' => e = .returned (.int .i64 c) ∧ ∃ p' : KeptBy W, w'' = p'.world := by
  obtain ⟨i', hi', ei⟩ := (hs (F i)).1 ⟨i, hi, rfl⟩
  obtain ⟨j', hj', ej⟩ := (hs (F j)).1 ⟨j, hj, rfl⟩
  obtain ⟨c, h⟩ := hc.call i' j' hi' hj'
  rw [ei, ej] at h
  exact ⟨c, fun p => KeptBy.call (h _ (hk.trans p.kept (fun x hx => hx.elim)))⟩

theorem KeptBy.cell (p : KeptBy W) {a : Addr} {v : Value} (h : W.cell? a = some v) : p.world.cell? a = some v := p.kept.cell h (fun h => h)

theorem SW.swapped (hk : Kept (fun b => b = g) w0 W) (hr : RowP W g cap n F) (hs : SetEq n F0 F) {i j : Nat} (hi : i < n) (hj : j < n) :
    SW w0 g cap n F0 ((W.setCell ⟨g, i, none⟩ (.pointer (F j))).setCell ⟨g, j, none⟩ (.pointer (F i))).drew :=
  ⟨((hk.setCell (.inl rfl) _).setCell (.inl rfl) _).trans (Kept.drewN noS _ 1) (fun x hx => hx.elim),
    swapF F i j, ((((hr.set i (F j)).set j (F i)).congr (fun k _ => by unfold swapF; split <;> (try split) <;> rfl)).of_block rfl), hs.swap hi hj⟩

set_option maxHeartbeats 4000000 in
set_option maxRecDepth 100000 in
theorem swapRange_any (a b m cd : Nat) (d : Value) (w : World) (hS : SW w0 g cap n F0 w) (hn : n ≤ cap) (hm : n ≤ 1048576) (ha : a + m ≤ n) (hb : b + m ≤ n) :
    Calls Try.prog 59 #[.slice (some ⟨g, 0, none⟩) n cd, .int .i64 a, .int .i64 b, .int .i64 m, d] w fun e w' => e = .returned (.tuple #[]) ∧ SW w0 g cap n F0 w' := by
  have HS : Hid _ := hS
  clear hS
  go_enter Try.func59, Try.ntmps59
  go_wp2
  go_loopw [10] (fun z wr => ∃ k : Nat, z = .int .i64 k ∧ k ≤ m ∧ Hid (SW w0 g cap n F0 wr)) (fun z _ => m - (intOf z).toNat)
  case atStart => exact ⟨0, rfl, Nat.zero_le _, HS⟩
  case round =>
    clear HS
    obtain ⟨k, rfl, hk, HS⟩ := hrel
    by_cases hlt : k < m
    · obtain ⟨hkw, F, hr, hs⟩ := HS.out
      have HK : Hid _ := hkw
      have HR : Hid (RowP wr g cap n F) := hr
      have HE : Hid (SetEq n F0 F) := hs
      clear hkw hr hs HS
      have hr : RowP wr g cap n F := HR.out
      have c1 := hr.cell (show a + k < n by omega)
      have c2 := hr.cell (show b + k < n by omega)
      have f1 := hr.frozen (a + k)
      have f2 := hr.frozen (b + k)
      have c3 := (hr.set (a + k) (F (b + k))).cell (show b + k < n by omega)
      have S3 : Hid (SW w0 g cap n F0 ((wr.setCell ⟨g, a + k, none⟩ (.pointer (F (b + k)))).setCell ⟨g, b + k, none⟩ (.pointer (F (a + k)))).drew) := SW.swapped HK.out HR.out HE.out (by omega) (by omega)
      generalize (if b + k = a + k then F (b + k) else F (b + k)) = u3 at c3
      clear hr
      generalize F (a + k) = vi at *
      generalize F (b + k) = vj at *
      go_wp2
      go_region
      go_wp2
      go_roundw
      case rel => exact ⟨k + 1, by go_num, by omega, S3⟩
      case measure => simp [intOf]; omega
    · go_wp2
      go_end0
      exact ⟨rfl, HS.out⟩

set_option maxHeartbeats 4000000 in
set_option maxRecDepth 100000 in
theorem insSort_any (a b cd : Nat) (w : World) (hC : CmpOk w0 g n F0 bx) (hS : SW w0 g cap n F0 w) (hn : n ≤ cap) (hm : n ≤ 1048576) (hab : a ≤ b) (hb : b ≤ n) :
    Calls Try.prog 37 #[.slice (some ⟨g, 0, none⟩) n cd, .int .i64 a, .int .i64 b, .func (.func 23) #[] #[bx]] w fun e w' => e = .returned (.tuple #[]) ∧ SW w0 g cap n F0 w' := by
  have HS : Hid _ := hS
  have HC : Hid _ := hC
  clear hS hC
  go_enter Try.func37, Try.ntmps37
  go_wp2
  go_loopg [8] (b - a) (fun gk z wr => ∃ i : Nat, z = .int .i64 i ∧ a < i ∧ i ≤ b + 1 ∧ b + 1 - i ≤ gk + 1 ∧ Hid (SW w0 g cap n F0 wr))
  case atStart => exact ⟨a + 1, by go_num, by omega, by omega, by omega, HS⟩
  case round =>
    clear HS
    obtain ⟨i, rfl, hai, hib, hgk, HS⟩ := hrel
    by_cases hlt : i < b
    · have hltz : (i : Int) < (b : Int) := by omega
      go_wp2
      go_loopg [9] i (fun gj z wr => ∃ j : Nat, z = .int .i64 j ∧ a ≤ j ∧ j ≤ i ∧ j ≤ gj ∧ Hid (SW w0 g cap n F0 wr))
      case atStart => exact ⟨i, rfl, by omega, Nat.le_refl _, Nat.le_refl _, HS⟩
      case round =>
        clear HS
        obtain ⟨j, rfl, haj, hji, hgj, HS⟩ := hrel
        by_cases hja : a < j
        · obtain ⟨q, rfl⟩ : ∃ q, j = q + 1 := ⟨j - 1, by omega⟩
          obtain ⟨hkw, F, hr, hs⟩ := HS.out
          obtain ⟨c, hc⟩ := HC.out.at (i := q + 1) (j := q) hkw hs (by omega) (by omega)
          have HK : Hid _ := hkw
          have HR : Hid (RowP wr g cap n F) := hr
          have HE : Hid (SetEq n F0 F) := hs
          have c1 := fun p : KeptBy wr => p.cell (hr.cell (show q + 1 < n by omega))
          have c2 := fun p : KeptBy wr => p.cell (hr.cell (show q < n by omega))
          clear hkw hr hs
          have hd : decide (((q + 1 : Nat) : Int) > (a : Int)) = true := decide_eq_true (by omega)
          have p1 : (0 : Int) ≤ (q : Int) + 1 := by omega
          have p2 : (q : Int) + 1 < (n : Int) := by omega
          have p3 : (0 : Int) ≤ (q : Int) := by omega
          have p4 : (q : Int) < (n : Int) := by omega
          have p5 : (a : Int) < (q : Int) + 1 := by omega
          have r1 : IntKind.i64.wrap ((q : Int) + 1) = (q : Int) + 1 := by rw [IntKind.wrap_i64]; omega
          have r2 : IntKind.i64.wrap ((q : Int)) = (q : Int) := by rw [IntKind.wrap_i64]; omega
          have hne : Nonempty (KeptBy wr) := KeptBy.ne wr
          by_cases hc0 : c < 0
          · have hcd : decide (c < 0) = true := decide_eq_true hc0
            go_wp2
            refine wp_region_quiet_kept (by kernel_rfl) (by kernel_rfl) ?_
            repeat (quiet_step ((go_at_call 23; exact hc _)))
            refine wpQuiet_nil ?_
            intro W2 h2
            have hW2 := KeptBy.out h2
            clear h2
            have hk2 : Kept (fun b => b = g) w0 W2 := HK.out.trans hW2 (fun x hx => hx.elim)
            have hr2 : RowP W2 g cap n F := hW2.rowP HR.out (fun h => h)
            have d1 := hr2.cell (show q + 1 < n by omega)
            have d2 := hr2.cell (show q < n by omega)
            have d3 := (hr2.set (q + 1) (F q)).cell (show q < n by omega)
            rw [if_neg (by omega)] at d3
            have f1 := hr2.frozen (q + 1)
            have f2 := hr2.frozen q
            have S3 : Hid (SW w0 g cap n F0 ((W2.setCell ⟨g, q + 1, none⟩ (.pointer (F q))).setCell ⟨g, q, none⟩ (.pointer (F (q + 1)))).drew) := SW.swapped hk2 hr2 HE.out (by omega) (by omega)
            clear hr2 hk2 hW2 c1 c2 hc HK HR HE HS hcd hne
            generalize F q = vq at *
            generalize F (q + 1) = vq1 at *
            go_wp2
            go_region
            go_wp2
            go_roundg q
            case measure => omega
            case rel => exact ⟨q, by first | rfl | go_num | (congr 1; omega), by omega, by omega, Nat.le_refl _, S3⟩
          · have hcd : decide (c < 0) = false := decide_eq_false hc0
            go_wp2
            refine wp_region_quiet_kept (by kernel_rfl) (by kernel_rfl) ?_
            repeat (quiet_step ((go_at_call 23; exact hc _)))
            refine wpQuiet_nil ?_
            intro W2 h2
            have hW2 := KeptBy.out h2
            clear h2
            have S3 : Hid (SW w0 g cap n F0 W2) := HS.out.more hW2
            clear hW2 c1 c2 hc HK HR HE HS hcd hne
            go_wp2
            go_roundg (b - (i + 1))
            case measure => omega
            case rel => exact ⟨i + 1, by go_num, by omega, by omega, by omega, S3⟩
        · have hja' : ¬ ((a : Int) < (j : Int)) := by omega
          have hd : decide ((j : Int) > (a : Int)) = false := decide_eq_false (by omega)
          go_wp2
          go_quiet (fail)
          have S3 : Hid (SW w0 g cap n F0 (wr.drewN nq)) := HS.out.more (Kept.drewN _ _ _)
          clear HS
          generalize wr.drewN nq = W2 at *
          go_wp2
          go_roundg (b - (i + 1))
          case measure => omega
          case rel => exact ⟨i + 1, by go_num, by omega, by omega, by omega, S3⟩
    · go_wp2
      go_end0
      exact ⟨rfl, HS.out⟩
end Go.Proofs.Qxb6613158a
