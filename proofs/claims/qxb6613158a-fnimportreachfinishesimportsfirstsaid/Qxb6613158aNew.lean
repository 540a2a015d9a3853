/-
  THE WALK of newImportReach (15).
-/
import Derived.Test.Qxb6613158aInit
import Derived.Test.Qxb6613158aFinish
import Derived.Test.Qxb6613158aLast
import Derived.Deep.Light
namespace Go.Proofs.Qxb6613158a
open Go.RowKit Tj
set_option linter.unusedSimpArgs false
set_option linter.unusedVariables false

theorem info21 : (Try.prog.info? 21).map (fun i => (i.zero, i.size, i.bytes)) = some (some (.int .i32 0), 1, 4) := by kernel_rfl
theorem info81 : (Try.prog.info? 81).map (fun i => (i.zero, i.size, i.bytes)) = some (some (.slice none 0 0), 1, 24) := by kernel_rfl

variable {wF : World} {n : Nat} {sp fp mp deg : Nat → Nat} {N : Nat → ByteArray} {ip A : Nat → Nat → Nat}

/-- What newImportReach hands back. -/
def NewTo (H n : Nat) (deg : Nat → Nat) (A : Nat → Nat → Nat) (w' : World) : Prop := ∃ gN gB gA num lo hi bv fa la cyc I, Places H gN gB gA ∧ Res H n gN gB gA w' num bv fa la cyc I ∧ Numbered n (adjOf deg A) num lo hi ∧ (∀ u v, u < n → v < n → hi u = hi v → bv u = bv v)

/-- The state at the loop's head. -/
def RunE (wF : World) (H n gN gB gA : Nat) (sp deg : Nat → Nat) (A : Nat → Nat → Nat) (w : World) (s : St) : Prop := ∃ O pval sval nv I bv fa la cyc, Run wF H n gN gB gA sp deg A w s O pval sval nv I bv fa la cyc

set_option maxHeartbeats 4000000 in
set_option maxRecDepth 100000 in
theorem new_any (hF : Files wF n sp fp mp N deg ip A) (fb : Nat) (hfl : ∀ k, k < n → wF.cell? ⟨fb, k, none⟩ = some (.pointer (some ⟨sp k, 0, none⟩))) (hn : n ≤ 4096) (hdeg : sumTo deg n ≤ 131072) :
    Calls Try.prog 15 #[.slice (some ⟨fb, 0, none⟩) n n] wF fun e w' => e = .returned (.pointer (some ⟨wF.heap.size + 3, 0, none⟩)) ∧ NewTo wF.heap.size n deg A w' ∧ Below wF.heap.size wF w' := by
  obtain ⟨i8, hi8, hz0, hz1, hz2⟩ := info_parts info85
  have hmk26 := fun W => run_make_row' (P := Try.prog) 26 21 (.int .i32 0) 4 Try.underlying26 info21 rfl .i64 .i64 n (by omega) (by omega) W
  have hmk79 := fun W => run_make_row' (P := Try.prog) 79 81 (.slice none 0 0) 24 Try.underlying79 info81 rfl .i64 .i64 n (by omega) (by omega) W
  have hmk31 := fun W => run_make_row' (P := Try.prog) 31 4 (.bool false) 1 Try.underlying31 info4 rfl .i64 .i64 n (by omega) (by omega) W
  have hmk80 : ∀ W, (Instr.makeSlice 80 (.int .i64 (n : Nat)) (.int .i64 (n : Nat))).run Try.prog W = .ok (.slice (some ⟨W.heap.size, 0, none⟩) n n) (W.alloc (.cells (madeCells #[.int .i32 0, .int .i32 0] (n * 2)) 85)) := fun W => by
    have h := run_make (P := Try.prog) W 80 85 i8 _ Try.underlying80 hi8 hz0 .i64 .i64 (n : Nat) (n : Nat) (by omega) (by omega) (by rw [hz2]; omega) (by omega)
    rw [hz1] at h
    exact h
  have HF : Hid (Files wF n sp fp mp N deg ip A) := hF
  have HFL : Hid (∀ k, k < n → wF.cell? ⟨fb, k, none⟩ = some (.pointer (some ⟨sp k, 0, none⟩))) := hfl
  clear hF hfl hi8 hz0 hz1 hz2
  obtain ⟨H, hH⟩ : ∃ H, H = wF.heap.size := ⟨_, rfl⟩
  have HH : Hid (H = wF.heap.size) := hH
  have hH1 : H ≤ wF.heap.size := by omega
  have hH2 : wF.heap.size ≤ H := by omega
  go_enter Try.func15, Try.ntmps15
  rw [← hH]
  clear hH
  go_upto_region 1 with fail
  go_cut [3] from 19 (fun v wc => v = .pointer (some ⟨H + 3, 0, none⟩) ∧ Hid (∃ gN gB gA, Places H gN gB gA ∧ Res H n gN gB gA wc (fun _ => 0) (fun _ => .slice none 0 0) (fun _ => 0) (fun _ => 0) (.slice none 0 0) noS) ∧ Hid (Kept noS wF wc) ∧ wc.heap.size = H + 4)
  case first =>
    as_aux_lemma =>
      go_region
      · go_wp2
        go_meet
        case rel =>
          rw [HH.out]
          exact ⟨rfl, init_reach wF [_, _, _, _] 0 1 2 rfl (by omega) (by omega) (by omega) (by omega) (by omega) (by omega) rfl rfl rfl rfl⟩
      · go_wp2
        go_meet
        case rel =>
          rw [HH.out]
          exact ⟨rfl, init_reach wF [_, _, _, _] 0 2 1 rfl (by omega) (by omega) (by omega) (by omega) (by omega) (by omega) rfl rfl rfl rfl⟩
      · go_wp2
        go_meet
        case rel =>
          rw [HH.out]
          exact ⟨rfl, init_reach wF [_, _, _, _] 1 0 2 rfl (by omega) (by omega) (by omega) (by omega) (by omega) (by omega) rfl rfl rfl rfl⟩
      · go_wp2
        go_meet
        case rel =>
          rw [HH.out]
          exact ⟨rfl, init_reach wF [_, _, _, _] 2 0 1 rfl (by omega) (by omega) (by omega) (by omega) (by omega) (by omega) rfl rfl rfl rfl⟩
      · go_wp2
        go_meet
        case rel =>
          rw [HH.out]
          exact ⟨rfl, init_reach wF [_, _, _, _] 1 2 0 rfl (by omega) (by omega) (by omega) (by omega) (by omega) (by omega) rfl rfl rfl rfl⟩
      · go_wp2
        go_meet
        case rel =>
          rw [HH.out]
          exact ⟨rfl, init_reach wF [_, _, _, _] 2 1 0 rfl (by omega) (by omega) (by omega) (by omega) (by omega) (by omega) rfl rfl rfl rfl⟩
  case rest =>
    obtain ⟨rfl, HR0, HK0, hsz0⟩ := hcut
    clear hmk79 hmk80
    go_upto_region 9 with fail
    simp only [Nat.add_assoc, Nat.reduceAdd]
    obtain ⟨gN, gB, gA, HP, HRi⟩ : ∃ gN gB gA, Hid (Places H gN gB gA) ∧ Hid (Res H n gN gB gA wc (fun _ => 0) (fun _ => .slice none 0 0) (fun _ => 0) (fun _ => 0) (.slice none 0 0) noS) := HR0.out
    have HRUN : Hid (RunE wF H n gN gB gA sp deg A (allocs wc [Obj.cells (madeCells #[Value.int IntKind.i32 0] n) 21, Obj.cells #[Value.slice (some { block := H + 4, off := 0 }) n n] 26, Obj.cells (madeCells #[Value.int IntKind.i32 0] n) 21, Obj.cells #[Value.slice (some { block := H + 6, off := 0 }) n n] 26, Obj.cells (madeCells #[Value.bool false] n) 4, Obj.cells #[Value.slice (some { block := H + 8, off := 0 }) n n] 31, Obj.cells #[Value.slice none 0 0] 41, Obj.cells #[Value.slice none 0 0] 96, Obj.cells #[Value.int IntKind.i32 0] 21]) St.start) := by
      -- <B
      generalize hl : [Obj.cells (madeCells #[Value.int IntKind.i32 0] n) 21, Obj.cells #[Value.slice (some { block := H + 4, off := 0 }) n n] 26, Obj.cells (madeCells #[Value.int IntKind.i32 0] n) 21, Obj.cells #[Value.slice (some { block := H + 6, off := 0 }) n n] 26, Obj.cells (madeCells #[Value.bool false] n) 4, Obj.cells #[Value.slice (some { block := H + 8, off := 0 }) n n] 31, Obj.cells #[Value.slice none 0 0] 41, Obj.cells #[Value.slice none 0 0] 96, Obj.cells #[Value.int IntKind.i32 0] 21] = l
      have kA := allocs_kept l wc
      have at' : ∀ (i : Nat) (o : Obj), l[i]? = some o → (allocs wc l).heap[H + (4 + i)]? = some o := fun i o h => by
        rw [← Nat.add_assoc]; exact allocs_at l wc (H + 4) i o hsz0 h
      refine ⟨_, _, _, _, _, _, _, _, _, run_init (mem_init (at' 0 _ (by rw [← hl]; rfl)) (at' 1 _ (by rw [← hl]; rfl)) (at' 2 _ (by rw [← hl]; rfl)) (at' 3 _ (by rw [← hl]; rfl)) (at' 4 _ (by rw [← hl]; rfl)) (at' 5 _ (by rw [← hl]; rfl)) (at' 6 _ (by rw [← hl]; rfl)) (at' 7 _ (by rw [← hl]; rfl)) (at' 8 _ (by rw [← hl]; rfl))) (HRi.out.kept kA (fun h => h) (fun h => h) (fun h => h) (fun h => h) (fun _ _ h => h)) ?_⟩
      exact ((HK0.out.trans kA (fun x hx => hx.elim)).below (Nat.le_refl _) (fun x hx => hx.elim))
      -- B>
    have hWeq : (((((((((wc.alloc (Obj.cells (madeCells #[Value.int IntKind.i32 0] n) 21)).alloc (Obj.cells #[Value.slice (some { block := H + 4, off := 0 }) n n] 26)).alloc (Obj.cells (madeCells #[Value.int IntKind.i32 0] n) 21)).alloc (Obj.cells #[Value.slice (some { block := H + 6, off := 0 }) n n] 26)).alloc (Obj.cells (madeCells #[Value.bool false] n) 4)).alloc (Obj.cells #[Value.slice (some { block := H + 8, off := 0 }) n n] 31)).alloc (Obj.cells #[Value.slice none 0 0] 41)).alloc (Obj.cells #[Value.slice none 0 0] 96)).alloc (Obj.cells #[Value.int IntKind.i32 0] 21)) = (allocs wc [Obj.cells (madeCells #[Value.int IntKind.i32 0] n) 21, Obj.cells #[Value.slice (some { block := H + 4, off := 0 }) n n] 26, Obj.cells (madeCells #[Value.int IntKind.i32 0] n) 21, Obj.cells #[Value.slice (some { block := H + 6, off := 0 }) n n] 26, Obj.cells (madeCells #[Value.bool false] n) 4, Obj.cells #[Value.slice (some { block := H + 8, off := 0 }) n n] 31, Obj.cells #[Value.slice none 0 0] 41, Obj.cells #[Value.slice none 0 0] 96, Obj.cells #[Value.int IntKind.i32 0] 21]) := rfl
    rw [hWeq]
    clear hWeq hmk26 hmk31 HRi HR0 HK0 hsz0
    generalize allocs wc _ = w0 at *
    go_wp2
    go_loopg [10, 42] n (fun gk f z wr => ∃ (i : Nat) (s : St), z = .int .i64 i ∧ f = .int .i32 (s.fin : Nat) ∧ i ≤ n ∧ n - i ≤ gk ∧ s.d = 0 ∧ Hid (∀ j, j < i → s.f j ≠ 0) ∧ Hid (RunE wF H n gN gB gA sp deg A wr s))
    case atStart => exact ⟨0, St.start, rfl, rfl, Nat.zero_le _, Nat.le_refl _, rfl, fun j hj => absurd hj (Nat.not_lt_zero _), HRUN⟩
    case round =>
      clear HRUN
      obtain ⟨i, s, rfl, rfl, hi, hgi, hd0, HFO, HRE⟩ := hrel
      obtain ⟨O, pval, sval, nv, I, bv, fa, la, cyc, HRn⟩ : ∃ O pval sval nv I bv fa la cyc, Hid (Run wF H n gN gB gA sp deg A wr s O pval sval nv I bv fa la cyc) := HRE.out
      by_cases hin : i < n
      · have e1 : wr.cell? ⟨fb, i, none⟩ = some (.pointer (some ⟨sp i, 0, none⟩)) := (HRn.out.frame.cell (block_lt_of_cell (HFL.out i hin))).trans (HFL.out i hin)
        have e2 := HRn.out.mem.fv
        have e3 := (HF.out.below HRn.out.frame).id i hin
        have e4 := HRn.out.mem.fr.cell hin
        have n1 : (0 : Int) ≤ (i : Int) := by omega
        have n2 : (i : Int) < (n : Int) := by omega
        by_cases hf : s.f i = 0
        · rw [hf] at e4
          have RD : Hid (Run wF H n gN gB gA sp deg A wr.drew s O pval sval nv I bv fa la cyc) := HRn.out.still (Kept.drewN noS wr 1)
          obtain ⟨rc, rm, rd⟩ := HRn.out.room hin hf
          have hdi : deg i ≤ 131072 := by
            have := sumTo_part deg 1 (fun _ => i) n (fun _ _ => hin) (fun a b ha hb _ => by omega)
            have : sumTo (fun _ => deg i) 1 = deg i := by show 0 + deg i = _; omega
            omega
          have h17 := find_any wF HF.out RD.out.frame hH2 RD.out.mem i hin hn rc rm rd (by omega)
          go_wp2
          go_region_held3 (fun W => W.cell? ⟨H + 5, 0, none⟩ = some (.slice (some ⟨H + 4, 0, none⟩) n n) ∧ W.cell? ⟨sp i, 1, none⟩ = some (.int .i64 (i : Nat)) ∧ W.cell? ⟨H + 4, i, none⟩ = some (.int .i32 0)) (go_keep) (fail)
          go_wp2_with (go_at_call 17; refine h17.mono ?_; rintro _ w2 ⟨rfl, ⟨pval', sval', nv', I', L, hM2, hI2, hL2, hL3⟩, hk2⟩)
          have HR2 : Hid (RunE wF H n gN gB gA sp deg A w2 (s.find i s.nx L)) := ⟨_, _, _, _, _, _, _, _, _, RD.out.found HP.out hH2 hin hf (fun h => by omega) (fun _ _ _ hu => .inr hu) (fun _ _ _ h => h) hL2 hM2 hI2 hk2⟩
          have HF1 : Hid (∀ j, j < i + 1 → (s.find i s.nx L).f j ≠ 0) := fun j hj => by
            show upd s.f i (s.c + 1) j ≠ 0
            by_cases e : j = i
            · rw [e, upd_same]; omega
            · rw [upd_other _ _ e]; exact HFO.out j (by omega)
          clear hM2 hI2 hL2 hL3 hk2 h17 RD HRn HRE HFO e1 e2 e3 e4
          go_loopg [10] (work n deg (s.find i s.nx L)) (fun gk f wq => ∃ s : St, f = .int .i32 (s.fin : Nat) ∧ work n deg s ≤ gk ∧ Hid (∀ j, j < i + 1 → s.f j ≠ 0) ∧ Hid (RunE wF H n gN gB gA sp deg A wq s))
          case atStart => exact ⟨s.find i s.nx L, rfl, Nat.le_refl _, HF1, HR2⟩
          case round =>
            rename_i Jr Kr hJr hKr
            clear HF1 HR2 hd0 hf
            obtain ⟨s2, rfl, hwk, HFO2, HRE2⟩ := hrel
            obtain ⟨O2, pval2, sval2, nv2, I2, bv2, fa2, la2, cyc2, HRn⟩ : ∃ O pval sval nv I bv fa la cyc, Hid (Run wF H n gN gB gA sp deg A wr s2 O pval sval nv I bv fa la cyc) := HRE2.out
            have c1 : wr.cell? ⟨H + 11, 0, none⟩ = some sval2 := HRn.out.mem.sr.cell (show 0 < 1 by omega)
            rcases Nat.eq_zero_or_pos s2.d with hd | hd
            · as_aux_lemma =>
                have hcap := own_cap HRn.out.mem.so
                rw [hd] at hcap
                rcases hcap with ⟨hv, _⟩ | ⟨g, cap, hv, _⟩
                · rw [hv] at c1
                  go_wp2
                  go_roundg (n - (i + 1))
                  case measure => omega
                  case rel => exact ⟨i + 1, s2, by go_num, rfl, by omega, Nat.le_refl _, hd, HFO2, HRE2⟩
                · rw [hv] at c1
                  go_wp2
                  go_roundg (n - (i + 1))
                  case measure => omega
                  case rel => exact ⟨i + 1, s2, by go_num, rfl, by omega, Nat.le_refl _, hd, HFO2, HRE2⟩
            · obtain ⟨e, he⟩ : ∃ e, s2.d = e + 1 := ⟨s2.d - 1, by omega⟩
              obtain ⟨sb, scap, hsv, hsc, hsb1, hsb2⟩ : ∃ g cap, sval2 = .slice (some ⟨g, 0, none⟩) (e + 1) cap ∧ e + 1 ≤ cap ∧ H + 13 ≤ g ∧ g < wr.heap.size := by
                rcases own_cap HRn.out.mem.so with ⟨_, h0⟩ | ⟨g, cap, h1, h2, h3, h4⟩
                · omega
                · exact ⟨g, cap, by rw [h1, he], by omega, h3, h4⟩
              have HSV : Hid (sval2 = .slice (some ⟨sb, 0, none⟩) s2.d scap) := by rw [he]; exact hsv
              have hso := HRn.out.mem.so
              rw [HSV.out] at hso
              have c2 : wr.cell? ⟨sb, e * 2, none⟩ = some (.pointer (some ⟨sp (s2.pa e), 0, none⟩)) := (hso.cellAt (e * 2) (by omega)).trans (flat_get (fun i => .pointer (some ⟨sp (s2.pa i), 0, none⟩)) nv2 s2.d e (by omega)).1
              have c3 : wr.cell? ⟨sb, e * 2 + 1, none⟩ = some (nv2 e) := (hso.cellAt (e * 2 + 1) (by omega)).trans (flat_get (fun i => .pointer (some ⟨sp (s2.pa i), 0, none⟩)) nv2 s2.d e (by omega)).2
              have z3 : wr.frozen? ⟨sb, e * 2 + 1, none⟩ = false := hso.frozenAt _
              rw [hsv] at c1
              have hnxt := HRn.out.mem.nx e (by omega)
              have htop : s2.pa e < n := (HRn.out.inv.open_lt (HRn.out.inv.pin e (by omega))).1
              have HD : Hid (s2.d = e + 1) := he
              have hen : e + 1 ≤ n := by have := HRn.out.inv.d_le; have := HRn.out.cnt; omega
              clear hso he hd hsv
              cases hnx : s2.nx e with
              | cons t rest =>
                -- <F
                rw [hnx] at hnxt
                obtain ⟨q, o, cq, hnv, hcq, c4, hnext⟩ := hnxt.tail
                rw [hnv] at c3
                have HNX : Hid (s2.nx e = t :: rest) := hnx
                have htm : t ∈ adjOf deg A (s2.pa e) := HRn.out.inv.nxs e (by rw [HD.out]; omega) t (by rw [hnx]; simp)
                have htn : t < n := by
                  obtain ⟨k, hk, ek⟩ := mem_adjOf.1 htm
                  rw [← ek]; exact HF.out.adj _ k htop hk
                obtain ⟨w1, hw1⟩ : ∃ w1, w1 = wr.setCell { block := sb, off := e * 2 + 1 } (Value.slice (if cq = 1 then some { block := q, off := o } else some { block := q, off := o + 1 }) rest.length (cq - 1)) := ⟨_, rfl⟩
                have hset := HRn.out.mem.setNext HD.out HSV.out hnext
                rw [← hw1] at hset
                obtain ⟨hM1, hk1⟩ := hset
                have HW1 : Hid (w1 = wr.setCell { block := sb, off := e * 2 + 1 } (Value.slice (if cq = 1 then some { block := q, off := o } else some { block := q, off := o + 1 }) rest.length (cq - 1))) := hw1
                have HK1 : Hid (Kept (fun b => sval2.ownBlock = some b) wr w1) := (show Kept (fun b => sval2.ownBlock = some b) wr w1 from hk1.mono (fun b hb => by rw [HSV.out, hb]; rfl))
                have HM1 : Hid (Mem H n sp w1 { s2 with nx := upd s2.nx e rest } O2 pval2 sval2 (upd nv2 e (Value.slice (if cq = 1 then some { block := q, off := o } else some { block := q, off := o + 1 }) rest.length (cq - 1))) I2) := hM1
                have HFr1 : Hid (Below wF.heap.size wF w1) := HRn.out.frame.trans (HK1.out.below HRn.out.frame.size (fun x hx => by have := HRn.out.mem.slt hx; omega))
                have e2 := hM1.fv
                have e3 := (HF.out.below HFr1.out).id t htn
                have e4 : w1.cell? ⟨H + 4, t, none⟩ = some (.int .i32 (s2.f t : Nat)) := hM1.fr.cell htn
                have e5 := hM1.ov
                have e6 := hM1.or.cell htn
                have n3 : (0 : Int) ≤ (t : Int) := by omega
                have n4 : (t : Int) < (n : Int) := by omega
                have hn1 : ∀ i, i < s2.d → ∀ u, u ∈ s2.nx i → (i = s2.d - 1 ∧ u = t) ∨ u ∈ upd s2.nx e rest i := fun i hi u hu => by
                  by_cases ei : i = e
                  · rw [ei, HNX.out] at hu
                    rcases List.mem_cons.1 hu with h | h
                    · exact .inl ⟨by rw [HD.out]; omega, h⟩
                    · exact .inr (by rw [ei, upd_same]; exact h)
                  · exact .inr (by rw [upd_other _ _ ei]; exact hu)
                have hn2 : ∀ i, i < s2.d → ∀ u, u ∈ upd s2.nx e rest i → u ∈ s2.nx i := fun i hi u hu => by
                  by_cases ei : i = e
                  · rw [ei, upd_same] at hu
                    rw [ei, HNX.out]; simp [hu]
                  · rw [upd_other _ _ ei] at hu; exact hu
                have HN1 : Hid _ := hn1
                have HN2 : Hid _ := hn2
                have HED : Hid (t ∈ adjOf deg A (s2.pa (s2.d - 1))) := by rw [HD.out]; exact htm
                have HWK := work_next (n := n) (deg := deg) (s := s2) (low := s2.low) (rest := rest) HD.out (by rw [hnx]; rfl)
                clear hnx hnext hnxt hw1 hM1 hk1 htm hn1 hn2
                by_cases hft : s2.f t = 0
                · as_aux_lemma =>
                    rw [hft] at e4
                    have RD : Hid (Mem H n sp w1.drew { s2 with nx := upd s2.nx e rest } O2 pval2 sval2 (upd nv2 e (Value.slice (if cq = 1 then some { block := q, off := o } else some { block := q, off := o + 1 }) rest.length (cq - 1))) I2) := HM1.out.still (Kept.drewN noS w1 1)
                    have FrD : Hid (Below wF.heap.size wF w1.drew) := HFr1.out.trans ((Kept.drewN noS w1 1).below HFr1.out.size (fun x hx => hx.elim))
                    obtain ⟨rc, rm, rd⟩ := HRn.out.room htn hft
                    have hdi : deg t ≤ 131072 := by
                      have := sumTo_part deg 1 (fun _ => t) n (fun _ _ => htn) (fun a b ha hb _ => by omega)
                      have : sumTo (fun _ => deg t) 1 = deg t := by show 0 + deg t = _; omega
                      omega
                    have h17 := find_any wF HF.out FrD.out hH2 RD.out t htn hn rc rm rd (by omega)
                    go_upto_region 20 with fail
                    generalize (if cq = 1 then some { block := q, off := o } else some { block := q, off := o + 1 } : Option Addr) = qa at *
                    rw [← HW1.out]
                    go_region_held3 (fun W => W.cell? ⟨H + 5, 0, none⟩ = some (.slice (some ⟨H + 4, 0, none⟩) n n) ∧ W.cell? ⟨sp t, 1, none⟩ = some (.int .i64 (t : Nat)) ∧ W.cell? ⟨H + 4, t, none⟩ = some (.int .i32 0)) (go_keep) (fail)
                    go_wp2_with (go_at_call 17; refine h17.mono ?_; rintro _ w2 ⟨rfl, ⟨pval', sval', nv', I', L, hM2, hI2, hL2, hL3⟩, hk2⟩)
                    have HRx : Hid (RunE wF H n gN gB gA sp deg A w2 (s2.find t (upd s2.nx e rest) L)) := ⟨_, _, _, _, _, _, _, _, _, HRn.out.found HP.out hH2 htn hft (fun _ => HED.out) (fun i hi u hu => (HN1.out i hi u hu).imp (fun h => h.2) (fun h => h)) HN2.out hL2 hM2 hI2 (((HK1.out.mono (T := Sx H pval2 sval2) (fun x hx => by unfold Sx; simp [hx])).trans (Kept.drewN noS w1 1) (fun x hx => hx.elim)).trans hk2 (fun x hx => .inl hx))⟩
                    have hwf := work_find (n := n) (deg := deg) (s := { s2 with nx := upd s2.nx e rest }) (t := t) (L := L) htn hft hL3
                    have hwf2 : work n deg (s2.find t (upd s2.nx e rest) L) < work n deg s2 := by
                      have : work n deg (s2.find t (upd s2.nx e rest) L) + 1 = work n deg { s2 with nx := upd s2.nx e rest } := hwf
                      have : work n deg { s2 with nx := upd s2.nx e rest } + 1 = work n deg s2 := HWK
                      omega
                    have HFx : Hid (∀ j, j < i + 1 → (s2.find t (upd s2.nx e rest) L).f j ≠ 0) := fun j hj => by
                      show upd s2.f t (s2.c + 1) j ≠ 0
                      by_cases ej : j = t
                      · rw [ej, upd_same]; omega
                      · rw [upd_other _ _ ej]; exact HFO2.out j hj
                    clear hM2 hI2 hL2 hL3 hk2 h17 hwf HWK
                    go_wp2
                    go_roundg (work n deg (s2.find t (upd s2.nx e rest) L))
                    case measure => omega
                    case rel => exact ⟨s2.find t (upd s2.nx e rest) L, rfl, Nat.le_refl _, HFx, HRx⟩
                · have hfb : ((s2.f t : Int) == 0) = false := by simp; omega
                  by_cases hOt : O2 t = true
                  · as_aux_lemma =>
                      rw [hOt] at e6
                      have e7 := HM1.out.lv
                      have e8 := (HF.out.below HFr1.out).id (s2.pa e) htop
                      have e9 : w1.cell? ⟨H + 6, s2.pa e, none⟩ = some (.int .i32 (s2.low (s2.pa e) : Nat)) := HM1.out.lr.cell htop
                      have z9 := HM1.out.lr.frozen (s2.pa e)
                      have hto : s2.Open t := (HRn.out.opn t htn).1 hOt
                      have n5 : (0 : Int) ≤ (s2.pa e : Int) := by omega
                      have n6 : (s2.pa e : Int) < (n : Int) := by omega
                      have hspt : sp (s2.pa e) < wF.heap.size := block_lt_of_cell (HF.out.id (s2.pa e) htop)
                      have hspt2 : sp t < wF.heap.size := block_lt_of_cell (HF.out.id t htn)
                      obtain ⟨mn, hmn⟩ : ∃ mn, mn = min (s2.low (s2.pa e)) (s2.f t) := ⟨_, rfl⟩
                      have hmni : min (s2.low (s2.pa e) : Int) (s2.f t : Int) = (mn : Int) := by omega
                      have hmm := HM1.out.still (Kept.drewN noS w1 1)
                      have hmm := (hmm.still (Kept.drewN noS w1.drew 1)).setLow (s2.pa e) mn
                      have RDL : Hid (Mem H n sp (w1.drew.drew.setCell ⟨H + 6, s2.pa e, none⟩ (.int .i32 (mn : Nat))).drew { s2 with low := upd s2.low (s2.pa e) mn, nx := upd s2.nx e rest } O2 pval2 sval2 (upd nv2 e (Value.slice (if cq = 1 then some { block := q, off := o } else some { block := q, off := o + 1 }) rest.length (cq - 1))) I2 ∧ Kept (fun b => b = H + 6) w1.drew.drew (w1.drew.drew.setCell ⟨H + 6, s2.pa e, none⟩ (.int .i32 (mn : Nat))).drew) := hmm
                      have n7 : ¬ (H + 6 = sp t) := by omega
                      have n8 : ¬ (H + 6 = sp (s2.pa e)) := by omega
                      have HMN : Hid (mn = min (s2.low (s2.pa e)) (s2.f t)) := hmn
                      clear hmm hmn HWK
                      go_upto_region 20 with fail
                      generalize (if cq = 1 then some { block := q, off := o } else some { block := q, off := o + 1 } : Option Addr) = qa at *
                      rw [← HW1.out]
                      go_region_held3 (fun W => W.cell? ⟨H + 5, 0, none⟩ = some (.slice (some ⟨H + 4, 0, none⟩) n n) ∧ W.cell? ⟨sp t, 1, none⟩ = some (.int .i64 (t : Nat)) ∧ W.cell? ⟨H + 4, t, none⟩ = some (.int .i32 (s2.f t : Nat))) (go_keep) (fail)
                      go_wp2
                      go_region_held3 (fun W => W.cell? ⟨H + 9, 0, none⟩ = some (.slice (some ⟨H + 8, 0, none⟩) n n) ∧ W.cell? ⟨sp t, 1, none⟩ = some (.int .i64 (t : Nat)) ∧ W.cell? ⟨H + 8, t, none⟩ = some (.bool true)) (go_keep) (fail)
                      go_wp2
                      have kD : Kept noS w1 w1.drew.drew := (Kept.drewN noS w1 1).trans (Kept.drewN noS w1.drew 1) (fun x hx => hx.elim)
                      have HKD : Hid (Kept noS w1 w1.drew.drew) := kD
                      have g2 := kD.cell e2 (fun h => h)
                      have g3 := kD.cell e3 (fun h => h)
                      have g4 := kD.cell e4 (fun h => h)
                      have g7 := kD.cell e7 (fun h => h)
                      have g8 := kD.cell e8 (fun h => h)
                      have g9 := kD.cell e9 (fun h => h)
                      have y9 : w1.drew.drew.frozen? ⟨H + 6, s2.pa e, none⟩ = false := z9
                      clear e2 e3 e4 e5 e6 e7 e8 e9 z9 c1 c2 c3 c4 z3 kD
                      generalize w1.drew.drew = w2 at *
                      generalize hlw : s2.low (s2.pa e) = lw at *
                      generalize hft2 : s2.f t = ft at *
                      have HRx : Hid (RunE wF H n gN gB gA sp deg A (w2.setCell { block := H + 6, off := s2.pa e } (Value.int IntKind.i32 (mn : Nat))).drew (s2.look mn (upd s2.nx e rest))) := by
                        obtain ⟨hM3, hk3⟩ := RDL.out
                        have hmn := HMN.out
                        have e9 : s2.pa (s2.d - 1) = s2.pa e := by rw [HD.out]; rfl
                        have e10 : (s2.look mn (upd s2.nx e rest)) = { s2 with low := upd s2.low (s2.pa e) mn, nx := upd s2.nx e rest } := by
                          unfold St.look
                          rw [e9]
                        have l1 : mn ≤ s2.low (s2.pa (s2.d - 1)) := by rw [e9, hlw]; omega
                        have l2 : mn ≤ s2.f t := by rw [hft2]; omega
                        have l3 : mn = s2.low (s2.pa (s2.d - 1)) ∨ (s2.Open t ∧ mn = s2.f t) := by
                          rw [e9, hlw, hft2]
                          rcases Nat.le_total lw ft with h | h
                          · left; omega
                          · right; exact ⟨hto, by omega⟩
                        refine ⟨_, _, _, _, _, _, _, _, _, HRn.out.looked HP.out hH2 (by rw [HD.out]; omega) (by rw [hft2]; exact hft) HED.out HN1.out HN2.out l1 (fun _ => l2) l3 (by rw [e10]; exact hM3) (((HK1.out.mono (T := fun b => b = H + 6 ∨ sval2.ownBlock = some b) (fun x hx => .inr hx)).trans HKD.out (fun x hx => hx.elim)).trans hk3 (fun x hx => .inl (.inl hx)))⟩
                      have hwf2 : work n deg (s2.look mn (upd s2.nx e rest)) < work n deg s2 := by
                        have := work_next (n := n) (deg := deg) (s := s2) (low := upd s2.low (s2.pa (s2.d - 1)) mn) (rest := rest) HD.out (by rw [HNX.out]; rfl)
                        have : work n deg (s2.look mn (upd s2.nx e rest)) + 1 = work n deg s2 := this
                        omega
                      refine wp_region_late (by kernel_rfl) (by kernel_rfl) ?_
                      simp only [List.dropLast]
                      go_big_quiet_step (fail)
                      go_big_quiet_step (fail)
                      go_big_quiet_step (fail)
                      go_big_quiet_step (fail)
                      go_big_quiet_step (fail)
                      go_big_quiet_step (fail)
                      go_big_quiet_step (fail)
                      go_big_quiet_step (fail)
                      go_big_quiet_step (fail)
                      go_big_quiet_step (fail)
                      go_big_quiet_step (fail)
                      go_big_quiet_step (fail)
                      go_big_quiet_step (fail)
                      go_big_quiet_step (fail)
                      go_big_quiet_step (fail)
                      go_big_quiet_step (fail)
                      go_big_quiet_step (fail)
                      go_big_quiet_step (fail)
                      go_big_quiet_step (fail)
                      go_big_quiet_step (fail)
                      go_big_quiet_step (fail)
                      refine wpQuiet_nil ?_
                      unfold lastWp
                      simp only [List.getLast?_cons_cons, List.getLast?_singleton]
                      go_wp2
                      go_roundg (work n deg (s2.look mn (upd s2.nx e rest)))
                      case measure => exact Nat.lt_of_lt_of_le hwf2 hwk
                      case rel => exact ⟨s2.look mn (upd s2.nx e rest), rfl, Nat.le_refl _, HFO2, HRx⟩
                  · as_aux_lemma =>
                      have hOf : O2 t = false := by simpa using hOt
                      rw [hOf] at e6
                      go_upto_region 20 with fail
                      generalize (if cq = 1 then some { block := q, off := o } else some { block := q, off := o + 1 } : Option Addr) = qa at *
                      rw [← HW1.out]
                      go_region_held3 (fun W => W.cell? ⟨H + 5, 0, none⟩ = some (.slice (some ⟨H + 4, 0, none⟩) n n) ∧ W.cell? ⟨sp t, 1, none⟩ = some (.int .i64 (t : Nat)) ∧ W.cell? ⟨H + 4, t, none⟩ = some (.int .i32 (s2.f t : Nat))) (go_keep) (fail)
                      go_wp2
                      go_region_held3 (fun W => W.cell? ⟨H + 9, 0, none⟩ = some (.slice (some ⟨H + 8, 0, none⟩) n n) ∧ W.cell? ⟨sp t, 1, none⟩ = some (.int .i64 (t : Nat)) ∧ W.cell? ⟨H + 8, t, none⟩ = some (.bool false)) (go_keep) (fail)
                      have HRx : Hid (RunE wF H n gN gB gA sp deg A w1.drew.drew (s2.look (s2.low (s2.pa e)) (upd s2.nx e rest))) := by
                        have kD : Kept noS w1 w1.drew.drew := (Kept.drewN noS w1 1).trans (Kept.drewN noS w1.drew 1) (fun x hx => hx.elim)
                        have e9 : s2.pa (s2.d - 1) = s2.pa e := by rw [HD.out]; rfl
                        have e10 : (s2.look (s2.low (s2.pa e)) (upd s2.nx e rest)) = { s2 with nx := upd s2.nx e rest } := by
                          unfold St.look
                          rw [e9, upd_id]
                        refine ⟨_, _, _, _, _, _, _, _, _, HRn.out.looked HP.out hH2 (by rw [HD.out]; omega) hft HED.out HN1.out HN2.out (by rw [e9]; exact Nat.le_refl _) (fun ho => absurd ((HRn.out.opn t htn).2 ho) hOt) (.inl (by rw [e9])) (by rw [e10]; exact HM1.out.still kD) (((HK1.out.mono (T := fun b => b = H + 6 ∨ sval2.ownBlock = some b) (fun x hx => .inr hx)).trans kD (fun x hx => hx.elim)))⟩
                      have hwf2 : work n deg (s2.look (s2.low (s2.pa e)) (upd s2.nx e rest)) < work n deg s2 := by
                        have := work_next (n := n) (deg := deg) (s := s2) (low := upd s2.low (s2.pa (s2.d - 1)) (s2.low (s2.pa e))) (rest := rest) HD.out (by rw [HNX.out]; rfl)
                        have : work n deg (s2.look (s2.low (s2.pa e)) (upd s2.nx e rest)) + 1 = work n deg s2 := this
                        omega
                      clear HWK
                      go_wp2
                      go_roundg (work n deg (s2.look (s2.low (s2.pa e)) (upd s2.nx e rest)))
                      case measure => omega
                      case rel => exact ⟨s2.look (s2.low (s2.pa e)) (upd s2.nx e rest), rfl, Nat.le_refl _, HFO2, HRx⟩
                -- F>
              | nil =>
                -- <K
                rw [hnx] at hnxt
                obtain ⟨qa, cq, hnv⟩ := hnxt.nil
                rw [hnv] at c3
                have HNX : Hid (s2.nx e = []) := hnx
                have z1 := HRn.out.mem.sr.frozen 0
                obtain ⟨w1, hw1⟩ : ∃ w1, w1 = wr.setCell ⟨H + 11, 0, none⟩ (.slice (some ⟨sb, 0, none⟩) e scap) := ⟨_, rfl⟩
                have hpop := HRn.out.mem.popStep HD.out HSV.out
                rw [← hw1] at hpop
                obtain ⟨hM1, hk1⟩ := hpop
                have HW1 : Hid (w1 = wr.setCell ⟨H + 11, 0, none⟩ (.slice (some ⟨sb, 0, none⟩) e scap)) := hw1
                have HK1 : Hid (Kept (fun b => b = H + 11) wr w1) := hk1
                have HM1 : Hid (Mem H n sp w1 { s2 with d := e } O2 pval2 (.slice (some ⟨sb, 0, none⟩) e scap) nv2 I2) := hM1
                have HFr1 : Hid (Below wF.heap.size wF w1) := HRn.out.frame.trans (HK1.out.below HRn.out.frame.size (fun x hx => by omega))
                have d1 : w1.cell? ⟨H + 11, 0, none⟩ = some (.slice (some ⟨sb, 0, none⟩) e scap) := hM1.sr.cell (show 0 < 1 by omega)
                have n5 : (0 : Int) ≤ (s2.pa e : Int) := by omega
                have n6 : (s2.pa e : Int) < (n : Int) := by omega
                have hspt : sp (s2.pa e) < wF.heap.size := block_lt_of_cell (HF.out.id (s2.pa e) htop)
                clear hnx hnxt hw1 hM1 hk1
                go_upto_region 25 with fail
                rw [← HW1.out]
                go_upto_if 135 with fail
                go_cut [17] (fun _ wc => Hid (Mem H n sp wc { s2 with d := e, low := s2.lowUp e } O2 pval2 (.slice (some ⟨sb, 0, none⟩) e scap) nv2 I2) ∧ Hid (Kept (fun b => b = H + 6) w1 wc))
                case first =>
                  rename_i J1 K1 hJ1 hK1
                  rcases Nat.eq_zero_or_pos e with he0 | hep
                  · as_aux_lemma =>
                      have hb : ¬ (0 : Int) < (e : Int) := by omega
                      have HFIN : Hid (Hid (Mem H n sp w1 { s2 with d := e, low := s2.lowUp e } O2 pval2 (.slice (some ⟨sb, 0, none⟩) e scap) nv2 I2) ∧ Hid (Kept (fun b => b = H + 6) w1 w1)) := by
                        have : s2.lowUp e = s2.low := by unfold St.lowUp; rw [if_neg (by omega)]
                        rw [this]
                        exact ⟨HM1.out, Kept.refl _ _⟩
                      clear he0
                      go_wp2
                      go_meet
                      case rel => exact HFIN.out
                  · as_aux_lemma =>
                      have hb : (0 : Int) < (e : Int) := by omega
                      obtain ⟨e1, he1⟩ : ∃ e1 : Nat, (e : Int) - 1 = (e1 : Int) := ⟨e - 1, by omega⟩
                      have hee : e1 + 1 = e := by omega
                      have HEE : Hid (e1 + 1 = e) := hee
                      have h11 : e1 < e := by omega
                      clear hee
                      have hpa1 : s2.pa e1 < n := (HRn.out.inv.open_lt (HRn.out.inv.pin e1 (by rw [HD.out]; omega))).1
                      have hso := HM1.out.so
                      have d2 : w1.cell? ⟨sb, e1 * 2, none⟩ = some (.pointer (some ⟨sp (s2.pa e1), 0, none⟩)) := (hso.cellAt (e1 * 2) (by show e1 * 2 < e * 2; omega)).trans (flat_get (fun i => .pointer (some ⟨sp (s2.pa i), 0, none⟩)) nv2 e e1 (by omega)).1
                      have e7 := HM1.out.lv
                      have e3 := (HF.out.below HFr1.out).id (s2.pa e1) hpa1
                      have e8 := (HF.out.below HFr1.out).id (s2.pa e) htop
                      have e9 : w1.cell? ⟨H + 6, s2.pa e, none⟩ = some (.int .i32 (s2.low (s2.pa e) : Nat)) := HM1.out.lr.cell htop
                      have e10 : w1.cell? ⟨H + 6, s2.pa e1, none⟩ = some (.int .i32 (s2.low (s2.pa e1) : Nat)) := HM1.out.lr.cell hpa1
                      have z10 := HM1.out.lr.frozen (s2.pa e1)
                      have n7 : (0 : Int) ≤ (s2.pa e1 : Int) := by omega
                      have n8 : (s2.pa e1 : Int) < (n : Int) := by omega
                      have hsp1 : sp (s2.pa e1) < wF.heap.size := block_lt_of_cell (HF.out.id (s2.pa e1) hpa1)
                      obtain ⟨mn, hmn⟩ : ∃ mn, mn = min (s2.low (s2.pa e1)) (s2.low (s2.pa e)) := ⟨_, rfl⟩
                      have hmni : min (s2.low (s2.pa e1) : Int) (s2.low (s2.pa e) : Int) = (mn : Int) := by omega
                      have HFIN : Hid (Hid (Mem H n sp (w1.setCell ⟨H + 6, s2.pa e1, none⟩ (.int .i32 (mn : Nat))).drew { s2 with d := e, low := s2.lowUp e } O2 pval2 (.slice (some ⟨sb, 0, none⟩) e scap) nv2 I2) ∧ Hid (Kept (fun b => b = H + 6) w1 (w1.setCell ⟨H + 6, s2.pa e1, none⟩ (.int .i32 (mn : Nat))).drew)) := by
                        have h1 := HM1.out.setLow (s2.pa e1) mn
                        have h2 : s2.lowUp e = upd s2.low (s2.pa e1) mn := by
                          unfold St.lowUp
                          rw [if_pos hep, show e - 1 = e1 by have := HEE.out; omega, ← hmn]
                        rw [h2]
                        exact h1
                      clear hso hmn hep
                      generalize s2.low (s2.pa e) = lw at *
                      generalize s2.low (s2.pa e1) = lw1 at *
                      go_upto_region 27 with fail
                      refine wp_region_late (by kernel_rfl) (by kernel_rfl) ?_
                      simp only [List.dropLast]
                      go_big_quiet_step (fail)
                      go_big_quiet_step (fail)
                      go_big_quiet_step (fail)
                      go_big_quiet_step (fail)
                      go_big_quiet_step (fail)
                      go_big_quiet_step (fail)
                      go_big_quiet_step (fail)
                      go_big_quiet_step (fail)
                      go_big_quiet_step (fail)
                      go_big_quiet_step (fail)
                      go_big_quiet_step (fail)
                      go_big_quiet_step (fail)
                      go_big_quiet_step (fail)
                      go_big_quiet_step (fail)
                      go_big_quiet_step (fail)
                      go_big_quiet_step (fail)
                      go_big_quiet_step (fail)
                      go_big_quiet_step (fail)
                      go_big_quiet_step (fail)
                      go_big_quiet_step (fail)
                      go_big_quiet_step (fail)
                      refine wpQuiet_nil ?_
                      unfold lastWp
                      simp only [List.getLast?_cons_cons, List.getLast?_singleton]
                      go_wp2
                      go_meet
                      case rel => exact HFIN.out
                case rest =>
                  obtain ⟨HMc, HKc⟩ := hcut
                  have HKw : Hid (Kept (fun b => b = H + 6 ∨ b = H + 11) wr wc) := (show Kept (fun b => b = H + 6 ∨ b = H + 11) wr wc from (HK1.out.mono (fun x hx => .inr hx)).trans HKc.out (fun x hx => .inl (.inl hx)))
                  have HFrc : Hid (Below wF.heap.size wF wc) := HFr1.out.trans (HKc.out.below HFr1.out.size (fun x hx => by omega))
                  have g2 := HMc.out.fv
                  have g7 := HMc.out.lv
                  have g8 := (HF.out.below HFrc.out).id (s2.pa e) htop
                  have g4 : wc.cell? ⟨H + 4, s2.pa e, none⟩ = some (.int .i32 (s2.f (s2.pa e) : Nat)) := HMc.out.fr.cell htop
                  have hlu : s2.lowUp e (s2.pa e) = s2.low (s2.pa e) := by
                    rcases Nat.eq_zero_or_pos e with h0 | h0
                    · unfold St.lowUp; rw [if_neg (by omega)]
                    · unfold St.lowUp
                      rw [if_pos h0, upd_other _ _ (HRn.out.inv.pa_ne (by rw [HD.out]; omega) (by rw [HD.out]; omega) (by omega))]
                  have g9 : wc.cell? ⟨H + 6, s2.pa e, none⟩ = some (.int .i32 (s2.low (s2.pa e) : Nat)) := by
                    rw [← hlu]
                    exact HMc.out.lr.cell htop
                  clear hlu c1 c2 c3 z3 z1 d1
                  by_cases hlow : s2.low (s2.pa e) = s2.f (s2.pa e)
                  · -- <Q
                    have hlb : ((s2.low (s2.pa e) : Int) == (s2.f (s2.pa e) : Int)) = true := by simp; omega
                    obtain ⟨j0, hj0, hop0⟩ := HRn.out.inv.pin e (by rw [HD.out]; omega)
                    have hmpos : 0 < s2.m := by omega
                    obtain ⟨pb, pcap, hpv, hpc, hpb1, hpb2⟩ : ∃ g cap, pval2 = .slice (some ⟨g, 0, none⟩) s2.m cap ∧ s2.m ≤ cap ∧ H + 13 ≤ g ∧ g < wc.heap.size := by
                      rcases own_cap HMc.out.po with ⟨_, h0⟩ | ⟨g, cap, h1, h2, h3, h4⟩
                      · have : s2.m = 0 := h0
                        omega
                      · exact ⟨g, cap, h1, h2, h3, h4⟩
                    have HPV : Hid (pval2 = .slice (some ⟨pb, 0, none⟩) s2.m pcap) := hpv
                    have hmn : s2.m ≤ n := by have := HRn.out.inv.m_le; have := HRn.out.cnt; omega
                    have hpo := HMc.out.po
                    rw [hpv] at hpo
                    have HOPC : Hid (∀ j, j < s2.m → wc.cell? ⟨pb, j, none⟩ = some (.pointer (some ⟨sp (s2.op j), 0, none⟩))) := fun j hj => by
                      have h1 := hpo.cellAt j (by show j < s2.m * 1; omega)
                      rw [h1]
                      simp [hj]
                    have g10 : wc.cell? ⟨H + 10, 0, none⟩ = some (.slice (some ⟨pb, 0, none⟩) s2.m pcap) := by
                      have := HMc.out.pr.cell (show 0 < 1 by omega)
                      rw [hpv] at this
                      exact this
                    have z10 := HMc.out.pr.frozen 0
                    have g11 := HMc.out.ov
                    obtain ⟨m1, hm1⟩ : ∃ m1 : Nat, (s2.m : Int) - 1 = (m1 : Int) := ⟨s2.m - 1, by omega⟩
                    have HM1e : Hid (m1 + 1 = s2.m) := by show m1 + 1 = s2.m; omega
                    have kD : Kept noS wc wc.drew := Kept.drewN noS wc 1
                    have HMd : Hid (Mem H n sp wc.drew { s2 with d := e, low := s2.lowUp e } O2 pval2 (.slice (some ⟨sb, 0, none⟩) e scap) nv2 I2) := HMc.out.still kD
                    have HFrd : Hid (Below wF.heap.size wF wc.drew) := HFrc.out.trans (kD.below HFrc.out.size (fun x hx => hx.elim))
                    have HKd : Hid (Kept (fun b => b = H + 6 ∨ b = H + 11) wr wc.drew) := (show Kept _ wr wc.drew from HKw.out.trans kD (fun x hx => hx.elim))
                    have HOPD : Hid (∀ j, j < s2.m → wc.drew.cell? ⟨pb, j, none⟩ = some (.pointer (some ⟨sp (s2.op j), 0, none⟩))) := fun j hj => kD.cell (HOPC.out j hj) (fun h => h)
                    have y10 : wc.drew.cell? ⟨H + 10, 0, none⟩ = some (.slice (some ⟨pb, 0, none⟩) s2.m pcap) := kD.cell g10 (fun h => h)
                    have y11 : wc.drew.cell? ⟨H + 9, 0, none⟩ = some (.slice (some ⟨H + 8, 0, none⟩) n n) := kD.cell g11 (fun h => h)
                    have HLOW : Hid (s2.low (s2.pa e) = s2.f (s2.pa e)) := hlow
                    have hopn : ∀ j, j < s2.m → s2.op j < n := fun j hj => (HRn.out.inv.opv j hj).1
                    have HOPN : Hid (∀ j, j < s2.m → s2.op j < n) := hopn
                    clear hpv hpo kD hlow hopn
                    go_wp2
                    go_region_held3 (fun W => W.cell? ⟨H + 5, 0, none⟩ = some (.slice (some ⟨H + 4, 0, none⟩) n n) ∧ W.cell? ⟨H + 7, 0, none⟩ = some (.slice (some ⟨H + 6, 0, none⟩) n n) ∧ W.cell? ⟨sp (s2.pa e), 1, none⟩ = some (.int .i64 (s2.pa e : Nat)) ∧ W.cell? ⟨H + 4, s2.pa e, none⟩ = some (.int .i32 (s2.f (s2.pa e) : Nat)) ∧ W.cell? ⟨H + 6, s2.pa e, none⟩ = some (.int .i32 (s2.low (s2.pa e) : Nat))) (go_keep) (fail)
                    clear g2 g7 g8 g4 g9 g10 g11 z10
                    generalize wc.drew = wd at *
                    go_wp2
                    go_loopg [18] m1 (fun gk z wq => ∃ k : Nat, z = .int .i64 k ∧ k ≤ m1 ∧ k ≤ gk ∧ Hid (j0 ≤ k) ∧ wq = wd)
                    case atStart => exact ⟨m1, rfl, Nat.le_refl _, Nat.le_refl _, by show j0 ≤ m1; have := HM1e.out; omega, rfl⟩
                    case round =>
                      obtain ⟨k, rfl, hkm, hkg, HJ, rfl⟩ := hrel
                      have hk1 : k < s2.m := by have := HM1e.out; omega
                      have d1 := HOPD.out k hk1
                      have n9 : (0 : Int) ≤ (k : Int) := by omega
                      have n10 : (k : Int) < (s2.m : Int) := by omega
                      by_cases hke : s2.op k = s2.pa e
                      · as_aux_lemma =>
                          have heq : (binOp .neq 42 (.pointer (some ⟨sp (s2.op k), 0, none⟩)) (.pointer (some ⟨sp (s2.pa e), 0, none⟩))).run Try.prog wr = .ok (.bool false) wr := by rw [hke]; exact neq_same42 _ _
                          have HKE : Hid (s2.op k = s2.pa e) := hke
                          have hadj : ∀ v u, v < n → u ∈ adjOf deg A v → u < n := fun v u hv hu => by
                            obtain ⟨k3, hk3, ek⟩ := mem_adjOf.1 hu
                            rw [← ek]; exact HF.out.adj v k3 hv hk3
                          obtain ⟨room1, room2⟩ := HRn.out.shut_room hadj HD.out HNX.out HLOW.out hk1 hke
                          have RD : Hid (Res H n gN gB gA wr.drew s2.num bv2 fa2 la2 cyc2 I2) := HRn.out.resKept HP.out (HKd.out.trans (Kept.drewN noS wr 1) (fun x hx => hx.elim)) (fun x hx => ⟨by omega, fun hi => by have := HRn.out.mem.imm x hi; omega⟩)
                          have Md : Hid (Mem H n sp wr.drew { s2 with d := e, low := s2.lowUp e } O2 pval2 (.slice (some ⟨sb, 0, none⟩) e scap) nv2 I2) := HMd.out.still (Kept.drewN noS wr 1)
                          have Frd2 : Hid (Below wF.heap.size wF wr.drew) := HFrd.out.trans ((Kept.drewN noS wr 1).below HFrd.out.size (fun x hx => hx.elim))
                          have hszd : H + 13 ≤ wr.drew.heap.size := by have := Md.out.cr.lt; omega
                          obtain ⟨mk, hmk⟩ : ∃ mk : Nat, mk = s2.m - k := ⟨_, rfl⟩
                          have h19 := finish_any wF HF.out Frd2.out hH2 HP.out RD.out Md.out.or hszd pb k mk (pcap - k) s2.fin (fun j => s2.op (k + j)) hpb1 (fun j hj => (Kept.drewN noS wr 1).cell (HOPD.out (k + j) (by omega)) (fun h => h)) (fun j hj => HOPN.out (k + j) (by omega)) (by omega) (by rw [hmk]; exact room1) hn (by rw [hmk]; exact Nat.le_trans room2 hdeg)
                          have hpk : ¬ (pcap = k) := by omega
                          have hmki : (s2.m : Int) - (k : Int) = (mk : Int) := by omega
                          have hmkn : s2.m - k = mk := hmk.symm
                          have hfn : s2.fin + mk ≤ n := by omega
                          have HKN : Hid (s2.m - k = mk) := hmkn
                          have HADJ : Hid (∀ v u, v < n → u ∈ adjOf deg A v → u < n) := hadj
                          clear hmk hke hadj room1 room2
                          go_wp2
                          refine wp_region_late (by kernel_rfl) (by kernel_rfl) ?_
                          simp only [List.dropLast]
                          go_big_quiet_step (fail)
                          go_big_quiet_step (fail)
                          go_big_quiet_step (fail)
                          go_big_quiet_step (fail)
                          go_big_quiet_step (fail)
                          go_big_quiet_step (fail)
                          refine wpQuiet_nil ?_
                          unfold lastWp
                          simp only [List.getLast?_cons_cons, List.getLast?_singleton]
                          go_simp
                          refine h19.mono ?_
                          rintro _ w3 ⟨rfl, ⟨v0, fa', la', cyc', J', hR3, hO3, hJ1, hJ2⟩, hk19⟩
                          dsimp only
                          have y10c : w3.cell? ⟨H + 10, 0, none⟩ = some (.slice (some ⟨pb, 0, none⟩) s2.m pcap) := hk19.cell ((Kept.drewN noS wr 1).cell y10 (fun h => h)) (fun h => by have := sf_ge' HP.out h; dsimp only at this; omega)
                          have HRx : Hid (RunE wF H n gN gB gA sp deg A (w3.setCell ⟨H + 10, 0, none⟩ (.slice (some ⟨pb, 0, none⟩) k pcap)) (s2.shut k (setTo s2.num (fun j => s2.op (k + j)) (fun j => s2.fin + j) (s2.m - k)))) := by
                            have hkn := HKN.out
                            rw [← hkn] at hR3 hO3
                            exact HRn.out.shutE HP.out hH2 HADJ.out HD.out HNX.out HLOW.out hk1 HKE.out HPV.out Md.out Frd2.out hR3 hO3 hJ1 hJ2 hk19
                          have z10c : w3.frozen? ⟨H + 10, 0, none⟩ = false := by
                            have hM3 := Md.out.finished HP.out hk19 hO3 hJ1 hJ2 hR3.jj
                            exact hM3.pr.frozen 0
                          have hwf2 : work n deg (s2.shut k (setTo s2.num (fun j => s2.op (k + j)) (fun j => s2.fin + j) (s2.m - k))) < work n deg s2 := by
                            have h1 := work_pop (n := n) (deg := deg) (s := s2) (m := k) (fin := s2.fin + (s2.m - k)) (num := setTo s2.num (fun j => s2.op (k + j)) (fun j => s2.fin + j) (s2.m - k)) (lo := (s2.shut k (setTo s2.num (fun j => s2.op (k + j)) (fun j => s2.fin + j) (s2.m - k))).lo) (hi := (s2.shut k (setTo s2.num (fun j => s2.op (k + j)) (fun j => s2.fin + j) (s2.m - k))).hi) (low := s2.lowUp (s2.d - 1)) HD.out HNX.out
                            have e10 : s2.shut k (setTo s2.num (fun j => s2.op (k + j)) (fun j => s2.fin + j) (s2.m - k)) = { s2 with d := e, low := s2.lowUp (s2.d - 1), m := k, fin := s2.fin + (s2.m - k), num := setTo s2.num (fun j => s2.op (k + j)) (fun j => s2.fin + j) (s2.m - k), lo := (s2.shut k (setTo s2.num (fun j => s2.op (k + j)) (fun j => s2.fin + j) (s2.m - k))).lo, hi := (s2.shut k (setTo s2.num (fun j => s2.op (k + j)) (fun j => s2.fin + j) (s2.m - k))).hi } := by
                              unfold St.shut
                              rw [show s2.d - 1 = e by rw [HD.out]; rfl]
                            rw [e10]
                            exact Nat.lt_of_succ_le (Nat.le_of_eq h1)
                          have HFINV : Hid (Value.int .i32 ((s2.fin : Int) + (mk : Int)) = .int .i32 (((s2.shut k (setTo s2.num (fun j => s2.op (k + j)) (fun j => s2.fin + j) (s2.m - k))).fin : Nat) : Int)) := by
                            show Value.int .i32 ((s2.fin : Int) + (mk : Int)) = .int .i32 ((s2.fin + (s2.m - k) : Nat) : Int)
                            rw [HKN.out]
                            congr 1
                          clear hR3 hO3 hJ1 hJ2 hk19 h19 hmkn y10 y11
                          go_wp2
                          go_roundg (work n deg (s2.shut k (setTo s2.num (fun j => s2.op (k + j)) (fun j => s2.fin + j) (s2.m - k))))
                          case measure => exact Nat.lt_of_lt_of_le hwf2 hwk
                          case rel => exact ⟨_, HFINV.out, Nat.le_refl _, HFO2, HRx⟩
                      · as_aux_lemma =>
                          have heq := (HF.out.below HFrd.out).neq_other (HOPN.out k hk1) htop hke
                          have hj1 : j0 ≠ k := fun e2 => hke (by rw [← e2]; exact hop0)
                          obtain ⟨k1, hk1e⟩ : ∃ k1 : Nat, (k : Int) - 1 = (k1 : Int) := ⟨k - 1, by have := HJ.out; omega⟩
                          have HK1e : Hid (k1 + 1 = k) := by show k1 + 1 = k; have := HJ.out; omega
                          have HJ1 : Hid (j0 ≤ k1) := by show j0 ≤ k1; have := HJ.out; have := HK1e.out; omega
                          clear hke hj1
                          go_wp2
                          go_roundg k1
                          case measure => have := HK1e.out; omega
                          case rel => exact ⟨k1, by first | rfl | go_num, by have := HK1e.out; omega, Nat.le_refl _, HJ1, rfl⟩
                    -- Q>
                  · as_aux_lemma =>
                      have hlb : ((s2.low (s2.pa e) : Int) == (s2.f (s2.pa e) : Int)) = false := by simp; omega
                      have HRx : Hid (RunE wF H n gN gB gA sp deg A wc.drew s2.pop) := by
                        have hlt : s2.low (s2.pa e) < s2.f (s2.pa e) := by have := HRn.out.inv.lwl e (by rw [HD.out]; omega); omega
                        have e10 : s2.pop = { s2 with d := e, low := s2.lowUp e } := by
                          unfold St.pop
                          rw [HD.out]; rfl
                        refine ⟨_, _, _, _, _, _, _, _, _, HRn.out.popped HP.out hH2 HD.out HNX.out hlt (by rw [e10]; exact HMc.out.still (Kept.drewN noS wc 1)) (HKw.out.trans (Kept.drewN noS wc 1) (fun x hx => hx.elim))⟩
                      have hwf2 : work n deg s2.pop < work n deg s2 := by
                        have h1 := work_pop (n := n) (deg := deg) (s := s2) (m := s2.m) (fin := s2.fin) (num := s2.num) (lo := s2.lo) (hi := s2.hi) (low := s2.lowUp (s2.d - 1)) HD.out HNX.out
                        have e10 : s2.pop = { s2 with d := e, low := s2.lowUp (s2.d - 1) } := by
                          unfold St.pop
                          rw [HD.out]; rfl
                        rw [e10]
                        exact Nat.lt_of_succ_le (Nat.le_of_eq h1)
                      go_wp2
                      go_region_held3 (fun W => W.cell? ⟨H + 5, 0, none⟩ = some (.slice (some ⟨H + 4, 0, none⟩) n n) ∧ W.cell? ⟨H + 7, 0, none⟩ = some (.slice (some ⟨H + 6, 0, none⟩) n n) ∧ W.cell? ⟨sp (s2.pa e), 1, none⟩ = some (.int .i64 (s2.pa e : Nat)) ∧ W.cell? ⟨H + 4, s2.pa e, none⟩ = some (.int .i32 (s2.f (s2.pa e) : Nat)) ∧ W.cell? ⟨H + 6, s2.pa e, none⟩ = some (.int .i32 (s2.low (s2.pa e) : Nat))) (go_keep) (fail)
                      go_wp2
                      go_roundg (work n deg s2.pop)
                      case measure => omega
                      case rel => exact ⟨s2.pop, rfl, Nat.le_refl _, HFO2, HRx⟩
                -- K>
        · have hfb : ((s.f i : Int) != 0) = true := by simp; omega
          as_aux_lemma =>
            go_wp2
            go_region_held3 (fun W => W.cell? ⟨H + 5, 0, none⟩ = some (.slice (some ⟨H + 4, 0, none⟩) n n) ∧ W.cell? ⟨sp i, 1, none⟩ = some (.int .i64 (i : Nat)) ∧ W.cell? ⟨H + 4, i, none⟩ = some (.int .i32 (s.f i : Nat))) (go_keep) (fail)
            have HRD : Hid (RunE wF H n gN gB gA sp deg A wr.drew s) := ⟨_, _, _, _, _, _, _, _, _, HRn.out.still (Kept.drewN noS wr 1)⟩
            go_wp2
            go_roundg (n - (i + 1))
            case measure => omega
            case rel => exact ⟨i + 1, s, by go_num, rfl, by omega, Nat.le_refl _, hd0, fun j hj => by
              by_cases e : j = i
              · rw [e]; exact hf
              · exact HFO.out j (by omega), HRD⟩
      · as_aux_lemma =>
          have hnl : ¬ (i : Int) < (n : Int) := by omega
          have HFIN : Hid (NewTo H n deg A wr ∧ Below H wF wr) := by
            have hin' : i = n := by omega
            have hnum := HRn.out.inv.numbered hd0 (fun v hv => HFO.out v (by omega))
            have hD : ∀ v, v < n → s.Done n v := fun v hv => ⟨hv, HFO.out v (by omega), HRn.out.inv.none_open hd0 v⟩
            exact ⟨⟨gN, gB, gA, s.num, s.lo, s.hi, bv, fa, la, cyc, I, HP.out, HRn.out.res, hnum.2, fun u v hu hv => HRn.out.same u v (hD u hu) (hD v hv)⟩, by rw [HH.out]; exact HRn.out.frame⟩
          go_wp2
          go_ret
          exact ⟨rfl, HFIN.out⟩
end Go.Proofs.Qxb6613158a
