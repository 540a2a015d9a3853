/-
  'reachFrom' (8): THE PLAIN CLOSURE, and THE WALK: behind the call the row holds just who is reached by one or more steps.
-/
import Derived.Test.Qxb6613158aKept
import Derived.Test.Qxb6613158aLeaves
import Derived.Deep.LoopGhost
namespace Go.Proofs.Qxb6613158a.Tj
set_option linter.unusedVariables false

structure RInv (adj : Nat → List Nat) (n src : Nat) (R : Nat → Bool) (st : List Nat) (x : Option Nat) : Prop where
  snd : ∀ j, j < n → R j = true → Reach1 adj src j
  stk : ∀ j, j ∈ st → j < n ∧ R j = true
  cls : ∀ j, j < n → R j = true → j ∉ st → some j ≠ x → ∀ u, u ∈ adj j → R u = true
  room : st.length + cnt (fun j => !R j) n ≤ n

variable {adj : Nat → List Nat} {n src : Nat} {R : Nat → Bool} {st : List Nat} {x : Option Nat}

theorem cnt_le (p : Nat → Bool) : ∀ k, cnt p k ≤ k
  | 0 => Nat.le_refl _
  | k + 1 => by
    have := cnt_le p k
    simp only [cnt]
    split <;> omega

theorem cnt_upd (R : Nat → Bool) (u : Nat) (hu : R u = false) : ∀ k, u < k → cnt (fun j => !(upd R u true) j) k + 1 = cnt (fun j => !R j) k
  | 0, h => absurd h (Nat.not_lt_zero _)
  | k + 1, h => by
    simp only [cnt]
    by_cases e : u = k
    · subst e
      rw [cnt_congr (q := fun j => !R j) u (fun j hj => by rw [upd_other _ _ (by omega)])]
      simp [upd_same, hu]
    · have := cnt_upd R u hu k (by omega)
      have e2 : upd R u true k = R k := upd_other _ _ (by omega)
      simp only [e2]
      omega

theorem RInv.start (src : Nat) : RInv adj n src (fun _ => false) [] none :=
  ⟨(fun j _ h => by cases h), (fun j h => by cases h), (fun j _ h => by cases h), (by simpa using cnt_le _ n)⟩

theorem RInv.push (h : RInv adj n src R st x) {u : Nat} (hu : u < n) (hR : R u = false) (hr : Reach1 adj src u) : RInv adj n src (upd R u true) (st ++ [u]) x := by
  have hup : ∀ j, R j = true → upd R u true j = true := fun j hj => by
    by_cases e : j = u
    · rw [e, upd_same]
    · rw [upd_other _ _ e]; exact hj
  refine ⟨fun j hj h1 => ?_, fun j h1 => ?_, fun j hj h1 h2 h3 v hv => ?_, ?_⟩
  · by_cases e : j = u
    · rw [e]; exact hr
    · rw [upd_other _ _ e] at h1; exact h.snd j hj h1
  · rcases List.mem_append.1 h1 with h2 | h2
    · have := h.stk j h2; exact ⟨this.1, hup j this.2⟩
    · have e : j = u := by simpa using h2
      rw [e]; exact ⟨hu, upd_same _ _ _⟩
  · have hne : j ≠ u := fun e => h2 (by rw [e]; simp)
    rw [upd_other _ _ hne] at h1
    exact hup v (h.cls j hj h1 (fun h4 => h2 (List.mem_append.2 (.inl h4))) h3 v hv)
  · have h1 := cnt_upd R u hR n hu
    have h2 := h.room
    rw [List.length_append]
    simp only [List.length_cons, List.length_nil]
    omega

theorem RInv.pop {t : Nat} (h : RInv adj n src R (st ++ [t]) none) : RInv adj n src R st (some t) :=
  ⟨h.snd, fun j hj => h.stk j (List.mem_append.2 (.inl hj)), fun j hj h1 h2 h3 => h.cls j hj h1 (fun h4 => by
    rcases List.mem_append.1 h4 with h5 | h5
    · exact h2 h5
    · exact h3 (by rw [show j = t by simpa using h5])) (by simp), by
    have := h.room
    rw [List.length_append] at this
    simp only [List.length_cons, List.length_nil] at this
    omega⟩

theorem RInv.done {t : Nat} (h : RInv adj n src R st (some t)) (ht : ∀ u, u ∈ adj t → R u = true) : RInv adj n src R st none :=
  ⟨h.snd, h.stk, fun j hj h1 h2 _ => by
    by_cases e : j = t
    · subst e; exact ht
    · exact h.cls j hj h1 h2 (fun h3 => e (by simpa using h3)), h.room⟩

theorem RInv.final (h : RInv adj n src R [] none) (hadj : ∀ v u, v < n → u ∈ adj v → u < n) (hsrc : ∀ u, u ∈ adj src → R u = true) (hs : src < n) : ∀ j, j < n → (R j = true ↔ Reach1 adj src j) := by
  have key : ∀ k {u v : Nat}, u < n → R u = true → ReachN adj k u v → R v = true := by
    intro k
    induction k with
    | zero => intro u v hu hR e; have e' : u = v := e; rw [← e']; exact hR
    | succ k ih =>
      rintro u v hu hR ⟨y, hy, r⟩
      exact ih (hadj u y hu hy) (h.cls u hu hR (by simp) (by simp) y hy) r
  intro j hj
  refine ⟨h.snd j hj, ?_⟩
  rintro ⟨k, y, hy, r⟩
  exact key k (hadj src y hs hy) (hsrc y hy) r
end Go.Proofs.Qxb6613158a.Tj

namespace Go.Proofs.Qxb6613158a
open Go.RowKit Tj
set_option linter.unusedSimpArgs false
set_option linter.unusedVariables false

theorem info3 : (Try.prog.info? 3).map (fun i => (i.zero, i.size, i.bytes)) = some (some (.int .i64 0), 1, 8) := by kernel_rfl

theorem getD_mem {l : List Nat} {k : Nat} (h : k < l.length) : l.getD k 0 ∈ l := by
  rw [List.getD_eq_getElem?_getD, List.getElem?_eq_getElem h]
  exact List.getElem_mem h

/-- The stack: a slice of the call's own. -/
def StkAt (w : World) (B sg cap : Nat) (st : List Nat) : Prop := w.ownsRow B 3 1 (.slice (some ⟨sg, 0, none⟩) st.length cap) st.length (st.map fun j => Value.int .i64 (j : Nat))

theorem StkAt.lt {w : World} {B sg cap : Nat} {st : List Nat} (h : StkAt w B sg cap st) : B ≤ sg ∧ sg < w.heap.size := by
  rcases h.2 with ⟨h1, _⟩ | ⟨g, c, cur, hv, hb, hh, _⟩
  · cases h1
  · cases hv
    exact ⟨hb, (Array.getElem?_eq_some_iff.1 hh).1⟩

theorem StkAt.cap {w : World} {B sg cap : Nat} {st : List Nat} (h : StkAt w B sg cap st) : st.length ≤ cap := by
  rcases h.2 with ⟨h1, _⟩ | ⟨g, c, cur, hv, hb, hh, hn, _⟩
  · cases h1
  · cases hv
    exact hn

/-- One file more is reached: the row, the stack, the frame. -/
theorem push_step {w wx w2 : World} {g n H sg cap t : Nat} {R : Nat → Bool} {st : List Nat} {v : Value} (hgH : g < H) (hwH : w.heap.size ≤ H) (hst : StkAt wx H sg cap st) (hrow : wx.rowIs g 4 n (fun j => .bool (R j))) (hk : Kept (fun b => b = g) w wx) {o : Obj}
    (hgrow : ((wx.setCell ⟨g, t, none⟩ (.bool true)).alloc o).grownBy w2 (Value.slice (some ⟨sg, 0, none⟩) st.length cap).ownBlock)
    (hown : w2.ownsRow H 3 1 v (st.length + 1) (st.map (fun j => Value.int .i64 (j : Nat)) ++ [.int .i64 (t : Nat)])) :
    ∃ sg' cap', v = .slice (some ⟨sg', 0, none⟩) (st.length + 1) cap' ∧ StkAt w2 H sg' cap' (st ++ [t]) ∧ w2.rowIs g 4 n (fun j => .bool (upd R t true j)) ∧ Kept (fun b => b = g) w w2 := by
  obtain ⟨sg', cap', hv, _, _⟩ := owns_some hown (by omega)
  have hlt := hst.lt
  have hglt := hrow.lt
  refine ⟨sg', cap', hv, ?_, ?_, ?_⟩
  · unfold StkAt
    rw [List.length_append, List.map_append]
    rw [hv] at hown
    exact hown
  · have h1 : (wx.setCell ⟨g, t, none⟩ (.bool true)).rowIs g 4 n (fun j => .bool (upd R t true j)) := (hrow.set t (.bool true)).congr (fun j hj => by
      by_cases e : j = t
      · simp [e, upd_same]
      · simp [e, upd_other _ _ e])
    exact (h1.alloc o).of_block (hgrow.block g (by simp [World.setCell]; omega) (by simp [Value.ownBlock]; omega))
  · exact ((hk.setCell (.inl rfl) _).alloc _).grown hgrow (fun k hk2 => by simp [Value.ownBlock] at hk2; right; omega)

set_option maxHeartbeats 4000000 in
set_option maxRecDepth 100000 in
theorem reach_any (a : Option Addr) (n c src g rc : Nat) (A : Nat → List Nat) (w wB : World) (hn : n ≤ 4096) (hsrc : src < n) (hM : Mat wB a n A) (hB : Below wB.heap.size wB w) (hg : wB.heap.size ≤ g)
    (hA : ∀ i, i < n → (A i).length ≤ 1048576) (hadj : ∀ v u, v < n → u ∈ A v → u < n) (f0 : Nat → Bool) (hrow : w.rowIs g 4 n (fun j => .bool (f0 j))) :
    Calls Try.prog 8 #[.slice a n c, .int .i64 src, .slice (some ⟨g, 0, none⟩) n rc] w fun e w' => e = .returned (.tuple #[]) ∧
      (∃ R : Nat → Bool, w'.rowIs g 4 n (fun j => .bool (R j)) ∧ ∀ j, j < n → (R j = true ↔ Reach1 A src j)) ∧ Kept (fun b => b = g) w w' := by
  obtain ⟨i0, hi, hz0, hz1, hz2⟩ := info_parts info3
  have hglt := hrow.lt
  have HADJ : Hid _ := hadj
  have HLEN : Hid _ := hA
  clear hadj hA
  go_enter Try.func8, Try.ntmps8
  go_wp2
  go_loopw [6] (fun z wr => ∃ k : Nat, z = .int .i64 k ∧ k ≤ n ∧ (∃ f : Nat → Bool, wr.rowIs g 4 n (fun j => .bool (f j)) ∧ ∀ j, j < k → f j = false) ∧ Kept (fun b => b = g) w wr) (fun z _ => n - (intOf z).toNat)
  case atStart => exact ⟨0, rfl, Nat.zero_le _, ⟨f0, hrow, fun j hj => absurd hj (Nat.not_lt_zero j)⟩, Kept.refl _ _⟩
  case round =>
    obtain ⟨k, rfl, hk, ⟨f, hf, hff⟩, hkw⟩ := hrel
    have HF : Hid _ := hff
    clear hff
    by_cases hlt : k < n
    · have hc := hf.cell hlt
      have hfz := hf.frozen k
      go_wp2
      go_roundw
      case rel =>
        refine ⟨k + 1, by go_num, by omega, ⟨fun j => if j = k then false else f j, (hf.set k (.bool false)).congr (fun j hj => ?_), fun j hj => ?_⟩, hkw.setCell (.inl rfl) _⟩
        · by_cases e : j = k <;> simp [e]
        · by_cases e : j = k
          · simp [e]
          · simp only [if_neg e]; exact HF.out j (by omega)
      case measure => simp [intOf]; omega
    · obtain rfl : n = k := by omega
      have hf0 : wr.rowIs g 4 n (fun j => .bool false) := hf.congr (fun j hj => by rw [HF.out j hj])
      have hglt' := hf0.lt
      have hl0 := HLEN.out src hsrc
      go_wp2_with (at_make; refine wpList_make_own _ rfl _ _ 25 rfl wr.heap.size 3 i0 (.int .i64 0) 1 Try.underlying25 hi hz0 hz1 _ _ _ n rfl rfl rfl ?b1 ?b2 ?b3 ?_)
      case b1 => rw [hz2]; omega
      case b2 => unfold maxLen; omega
      case b3 => exact Nat.le_refl _
      intro w1 hown hgr
      have hgH : g < wr.heap.size := hglt'
      have hst1 : StkAt w1 wr.heap.size wr.heap.size n [] := hown
      have hrow1 : w1.rowIs g 4 n (fun j => .bool false) := hf0.of_block (hgr.block g hgH (by simp))
      have hk1 : Kept (fun b => b = g) w w1 := hkw.grown hgr (fun k hk => by cases hk)
      have hwH : w.heap.size ≤ wr.heap.size := hkw.size
      generalize wr.heap.size = H at hgH hst1 hwH ⊢
      clear hgr hown hf0 hf HF
      have hBk : ∀ wx, Kept (fun b => b = g) w wx → Below wB.heap.size wB wx := fun wx hkx => hB.trans (hkx.below hB.size (fun x hx => by rw [hx]; exact hg))
      have HBK : Hid _ := hBk
      clear hBk
      obtain ⟨xa, b0, c0, hxa, hrcB, helB⟩ := hM.row src hsrc
      subst hxa
      have HEL : Hid _ := helB
      clear helB
      have hrc := ((HBK.out w1 hk1).cell (block_lt_of_cell hrcB)).trans hrcB
      go_wp2
      go_loopw [7, 30] (fun s7 z wx => ∃ (k : Nat) (st : List Nat) (R : Nat → Bool) (sg cap : Nat), z = .int .i64 k ∧ s7 = .slice (some ⟨sg, 0, none⟩) st.length cap ∧ k ≤ (A src).length ∧ StkAt wx H sg cap st ∧ wx.rowIs g 4 n (fun j => .bool (R j)) ∧ RInv A n src R st none ∧ (∀ j, j < k → R ((A src).getD j 0) = true) ∧ Kept (fun b => b = g) w wx) (fun _ z _ => (A src).length - (intOf z).toNat)
      case atStart => exact ⟨0, [], fun _ => false, H, n, rfl, rfl, Nat.zero_le _, hst1, hrow1, RInv.start src, fun j hj => absurd hj (Nat.not_lt_zero j), hk1⟩
      case round =>
        obtain ⟨k, st, R, sg, cap, rfl, rfl, hk, hst, hrow, hinv, hdone, hkw⟩ := hrel
        have HD : Hid _ := hdone
        have HI : Hid _ := hinv
        clear hdone hinv
        by_cases hlt : k < (A src).length
        · obtain ⟨y, hy, hcyB⟩ := HEL.out k hlt
          subst hy
          have hcy := ((HBK.out wr hkw).cell (block_lt_of_cell hcyB)).trans hcyB
          have hmem : (A src).getD k 0 ∈ A src := getD_mem hlt
          have htn := HADJ.out src _ hsrc hmem
          generalize ht : (A src).getD k 0 = t at hcy hmem htn
          have HT : Hid _ := ht
          clear ht hcyB
          have h1 : (0 : Int) ≤ (t : Int) := by omega
          have h2 : (t : Int) < (n : Int) := by omega
          have hrt := hrow.cell htn
          have hrf := hrow.frozen t
          cases hR : R t
          · have hsl := HI.out.room
            rw [hR] at hrt
            have HR : Hid _ := hR
            clear hR
            go_wp2_with (at_builtin; refine wpList_append_own _ rfl _ _ 25 rfl H 3 i0 (.int .i64 0) 1 8 Try.underlying25 hi hz0 hz1 hz2 rfl (by decide) _ _ _ rfl ((ownsRow_setCell_below hst hgH _).alloc _) ⟨wr.heap.size, 0, none⟩ 1 1 [.int .i64 (t : Nat)] rfl rfl ?c1 ?c2 ?c3 ?c4 ?c5 ?_)
            case c1 => intro j u hj; exact new_one _ _ (by simp [World.setCell]) 3 _ j u hj
            case c2 => intro u hu; simp at hu; subst hu; rfl
            case c3 => unfold maxLen; omega
            case c4 => omega
            case c5 => have := hst.lt; simp [World.setCell]; omega
            intro v' w2 hown' hgrow _
            obtain ⟨sg', cap', hv, hst2, hrow2, hk2⟩ := push_step hgH hwH hst hrow hkw hgrow hown'
            subst hv
            go_wp2
            go_roundw
            case rel =>
              refine ⟨k + 1, st ++ [t], upd R t true, sg', cap', by go_num, by simp, by omega, hst2, hrow2, HI.out.push htn HR.out (Reach1.edge hmem), fun j hj => ?_, hk2⟩
              by_cases e : j = k
              · subst e; rw [HT.out]; exact upd_same _ _ _
              · have := HD.out j (by omega)
                by_cases e2 : (A src).getD j 0 = t
                · rw [e2]; exact upd_same _ _ _
                · rw [upd_other _ _ e2]; exact this
            case measure => simp [intOf]; omega
          · rw [hR] at hrt
            have HR : Hid _ := hR
            clear hR
            go_wp2
            go_roundw
            case rel =>
              refine ⟨k + 1, st, R, sg, cap, by go_num, rfl, by omega, hst, hrow, HI.out, fun j hj => ?_, hkw⟩
              by_cases e : j = k
              · subst e; rw [HT.out]; exact HR.out
              · exact HD.out j (by omega)
            case measure => simp [intOf]; omega
        · have hsrcall : ∀ (R' : Nat → Bool), (∀ j, R j = true → R' j = true) → ∀ u, u ∈ A src → R' u = true := fun R' hRR u hu => by
            obtain ⟨j, hj, e⟩ := List.getElem_of_mem hu
            have := HD.out j (by omega)
            rw [List.getD_eq_getElem?_getD, List.getElem?_eq_getElem hj] at this
            exact hRR u (by rw [← e]; exact this)
          have HSRC : Hid _ := hsrcall
          clear hsrcall HD
          go_wp2
          go_loopg [7] (st.length + cnt (fun j => !R j) n) (fun gk s7 wx => ∃ (st' : List Nat) (R' : Nat → Bool) (sg cap ln : Nat), Hid (st'.length = ln) ∧ ln + cnt (fun j => !R' j) n ≤ gk ∧ s7 = .slice (some ⟨sg, 0, none⟩) ln cap ∧ StkAt wx H sg cap st' ∧ wx.rowIs g 4 n (fun j => .bool (R' j)) ∧ RInv A n src R' st' none ∧ (∀ j, R j = true → R' j = true) ∧ Kept (fun b => b = g) w wx)
          case atStart => exact ⟨st, R, sg, cap, st.length, rfl, Nat.le_refl _, rfl, hst, hrow, HI.out, fun _ h => h, hkw⟩
          case round =>
            obtain ⟨st', R', sg', cap', ln, hln, hgk, rfl, hst', hrow', hinv', hRR, hkw'⟩ := hrel
            have HI' : Hid _ := hinv'
            have HRR : Hid _ := hRR
            clear hinv' hRR
            cases ln with
            | zero =>
              have e : st' = [] := List.eq_nil_of_length_eq_zero hln.out
              subst e
              go_wp2
              go_end0
              exact ⟨rfl, ⟨R', hrow', HI'.out.final HADJ.out (HSRC.out R' HRR.out) hsrc⟩, hkw'⟩
            | succ m =>
              obtain ⟨st0, t, e⟩ : ∃ st0 t, st' = st0 ++ [t] := by
                rcases List.eq_nil_or_concat st' with e | ⟨st0, t, e⟩
                · have := hln.out; rw [e] at this; simp at this
                · exact ⟨st0, t, by simpa using e⟩
              subst e
              have hm0 : Hid (st0.length = m) := by have := hln.out; simp at this; exact this
              have htop : wr.cell? ⟨sg', m, none⟩ = some (.int .i64 (t : Nat)) := by
                have := hst'.cells (g := sg') rfl m (.int .i64 (t : Nat)) (by rw [List.map_append, List.getElem?_append_right (by rw [List.length_map, hm0.out]; exact Nat.le_refl _)]; simp [hm0.out])
                rwa [addr_add, Nat.zero_add] at this
              have htn : t < n := (HI'.out.stk t (by simp)).1
              have hstp : StkAt wr H sg' cap' st0 := by
                have h1 := hst'
                unfold StkAt at h1
                rw [List.length_append, List.map_append] at h1
                exact ownsRow_pop (by simp) h1
              have hpop := HI'.out.pop
              have HRt : Hid (R' t = true) := (HI'.out.stk t (by simp)).2
              have hroom := HI'.out.room
              rw [List.length_append] at hroom
              simp only [List.length_cons, List.length_nil] at hroom
              obtain ⟨xa2, b2, c2, hxa2, hrcB2, helB2⟩ := hM.row t htn
              cases hxa2
              have HEL2 : Hid _ := helB2
              clear helB2
              have hl2 := HLEN.out t htn
              have hrc2 := ((HBK.out wr hkw').cell (block_lt_of_cell hrcB2)).trans hrcB2
              have HPOP : Hid _ := hpop
              clear hpop HI'
              have h1 : (0 : Int) ≤ (t : Int) := by omega
              have h2 : (t : Int) < (n : Int) := by omega
              have hm4 : m ≤ 4096 := by have := hm0.out; omega
              have hcap : m ≤ cap' := by have := hm0.out; have := hst'.cap; simp at this; omega
              go_wp2
              go_loopw [7, 66] (fun s7 z wx => ∃ (k : Nat) (st2 : List Nat) (R2 : Nat → Bool) (sg cap ln : Nat), Hid (st2.length = ln) ∧ z = .int .i64 k ∧ s7 = .slice (some ⟨sg, 0, none⟩) ln cap ∧ k ≤ (A t).length ∧ StkAt wx H sg cap st2 ∧ wx.rowIs g 4 n (fun j => .bool (R2 j)) ∧ RInv A n src R2 st2 (some t) ∧ (∀ j, j < k → R2 ((A t).getD j 0) = true) ∧ (∀ j, R j = true → R2 j = true) ∧ R2 t = true ∧ ln + cnt (fun j => !R2 j) n ≤ m + cnt (fun j => !R' j) n ∧ Kept (fun b => b = g) w wx) (fun _ z _ => (A t).length - (intOf z).toNat)
              case atStart => exact ⟨0, st0, R', sg', cap', m, hm0, rfl, rfl, Nat.zero_le _, hstp, hrow', HPOP.out, fun j hj => absurd hj (Nat.not_lt_zero j), HRR.out, HRt.out, Nat.le_refl _, hkw'⟩
              case round =>
                obtain ⟨k2, st2, R2, sg2, cap2, ln2, hln2, rfl, rfl, hk2, hst2, hrow2, hinv2, hdone2, hRR2, hRt2, htot, hkw2⟩ := hrel
                have HD2 : Hid _ := hdone2
                have HI2 : Hid _ := hinv2
                have HRR2 : Hid _ := hRR2
                have HRt2 : Hid _ := hRt2
                clear hdone2 hinv2 hRR2 hRt2
                by_cases hlt2 : k2 < (A t).length
                · obtain ⟨y, hy, hcyB⟩ := HEL2.out k2 hlt2
                  subst hy
                  have hcy := ((HBK.out wr hkw2).cell (block_lt_of_cell hcyB)).trans hcyB
                  have hmem : (A t).getD k2 0 ∈ A t := getD_mem hlt2
                  have hun := HADJ.out t _ htn hmem
                  generalize hu : (A t).getD k2 0 = u at hcy hmem hun
                  have HU : Hid _ := hu
                  clear hu hcyB
                  have h3 : (0 : Int) ≤ (u : Int) := by omega
                  have h4 : (u : Int) < (n : Int) := by omega
                  have hrt := hrow2.cell hun
                  have hrf := hrow2.frozen u
                  cases hR : R2 u
                  · have hsl := HI2.out.room
                    rw [hln2.out] at hsl
                    rw [hR] at hrt
                    have HR : Hid _ := hR
                    clear hR
                    have hst2' : wr.ownsRow H 3 1 (.slice (some ⟨sg2, 0, none⟩) ln2 cap2) ln2 (st2.map fun j => Value.int .i64 (j : Nat)) := by have := hst2; unfold StkAt at this; rwa [hln2.out] at this
                    have hltS := hst2.lt
                    go_wp2_with (at_builtin; refine wpList_append_own _ rfl _ _ 25 rfl H 3 i0 (.int .i64 0) 1 8 Try.underlying25 hi hz0 hz1 hz2 rfl (by decide) _ _ _ rfl ((ownsRow_setCell_below hst2' hgH _).alloc _) ⟨wr.heap.size, 0, none⟩ 1 1 [.int .i64 (u : Nat)] rfl rfl ?c1 ?c2 ?c3 ?c4 ?c5 ?_)
                    case c1 => intro j u hj; exact new_one _ _ (by simp [World.setCell]) 3 _ j u hj
                    case c2 => intro u hu; simp at hu; subst hu; rfl
                    case c3 => unfold maxLen; omega
                    case c4 => omega
                    case c5 => simp [World.setCell]; omega
                    intro v' w2 hown' hgrow _
                    rw [← hln2.out] at hown' hgrow
                    obtain ⟨sg3, cap3, hv, hst3, hrow3, hk3⟩ := push_step hgH hwH hst2 hrow2 hkw2 hgrow hown'
                    rw [hln2.out] at hv
                    subst hv
                    go_wp2
                    go_roundw
                    case rel =>
                      have hcu := cnt_upd R2 u HR.out n hun
                      have hl2 := hln2.out
                      refine ⟨k2 + 1, st2 ++ [u], upd R2 u true, sg3, cap3, ln2 + 1, ?_, by go_num, rfl, by omega, hst3, hrow3, HI2.out.push hun HR.out ((HI2.out.snd t htn HRt2.out).step hmem), fun j hj => ?_, fun j hj => ?_, ?_, by omega, hk3⟩
                      · show (st2 ++ [u]).length = ln2 + 1
                        simp [hl2]
                      · by_cases e2 : (A t).getD j 0 = u
                        · rw [e2]; exact upd_same _ _ _
                        · rw [upd_other _ _ e2]
                          by_cases e : j = k2
                          · subst e; exact absurd HU.out e2
                          · exact HD2.out j (by omega)
                      · by_cases e2 : j = u
                        · rw [e2]; exact upd_same _ _ _
                        · rw [upd_other _ _ e2]; exact HRR2.out j hj
                      · by_cases e2 : t = u
                        · rw [e2]; exact upd_same _ _ _
                        · rw [upd_other _ _ e2]; exact HRt2.out
                    case measure => simp [intOf]; omega
                  · rw [hR] at hrt
                    have HR : Hid _ := hR
                    clear hR
                    go_wp2
                    go_roundw
                    case rel =>
                      refine ⟨k2 + 1, st2, R2, sg2, cap2, ln2, hln2, by go_num, rfl, by omega, hst2, hrow2, HI2.out, fun j hj => ?_, HRR2.out, HRt2.out, htot, hkw2⟩
                      by_cases e : j = k2
                      · subst e; rw [HU.out]; exact HR.out
                      · exact HD2.out j (by omega)
                    case measure => simp [intOf]; omega
                · have hall : ∀ u, u ∈ A t → R2 u = true := fun u hu => by
                    obtain ⟨j, hj, e⟩ := List.getElem_of_mem hu
                    have := HD2.out j (by omega)
                    rw [List.getD_eq_getElem?_getD, List.getElem?_eq_getElem hj] at this
                    rw [← e]; exact this
                  have HALL : Hid _ := hall
                  clear hall
                  go_wp2
                  go_roundg (m + cnt (fun j => !R' j) n)
                  case measure => omega
                  case rel => exact ⟨st2, R2, sg2, cap2, ln2, hln2, htot, rfl, hst2, hrow2, HI2.out.done HALL.out, HRR2.out, hkw2⟩
end Go.Proofs.Qxb6613158a
