/-
  THE WALK of ZZnewImportReach (6).
-/
import Derived.Test.Qxb6613158aNew
import Derived.Test.Qxb6613158aLayB
import Derived.Test.Qxb6613158aCop
import Derived.Test.Qxb6613158aLate
import Derived.Deep.Light
namespace Go.Proofs.Qxb6613158a
open Go.RowKit Tj
set_option linter.unusedSimpArgs false
set_option linter.unusedVariables false
theorem info26 : (Try.prog.info? 26).map (fun i => (i.zero, i.size, i.bytes)) = some (some (.slice none 0 0), 1, 24) := by kernel_rfl

theorem results_tmp4 {fn : Func} {t u v x : Tmp} (h : fn.results = #[.tmp t, .tmp u, .tmp v, .tmp x]) (tmps : Array Value) (P : Program) (w : World) :
    (results fn tmps).run P w = .ok (.tuple #[tmps.getD t undef, tmps.getD u undef, tmps.getD v undef, tmps.getD x undef]) w := by
  simp [results, h]

theorem sumTo_cong {f g : Nat → Nat} : ∀ {n : Nat}, (∀ j, j < n → f j = g j) → sumTo f n = sumTo g n
  | 0, _ => rfl
  | n + 1, h => by
    show sumTo f n + f n = sumTo g n + g n
    rw [sumTo_cong (fun j hj => h j (by omega)), h n (by omega)]

theorem adjOf_mat (M : Nat → List Nat) : adjOf (fun j => (M j).length) (fun i k => (M i).getD k 0) = M := by
  funext v
  unfold adjOf
  apply List.ext_getElem
  · simp
  · intro k h1 h2
    simp [List.getD_eq_getElem?_getD, List.getElem?_eq_getElem h2]

/-- What ZZnewImportReach hands back. -/
def ZzTo (n : Nat) (M : Nat → List Nat) (e : Ending) (w' : World) : Prop := ∃ (gN gR : Nat) (num lo hi : Nat → Nat) (res : Nat → Value) (z : Nat → List Int) (v6 v7 : Value), e = .returned (.tuple #[.slice (some ⟨gN, 0, none⟩) n n, .slice (some ⟨gR, 0, none⟩) n n, v6, v7]) ∧ w'.rowIs gN 21 n (fun i => .int .i32 (num i : Nat)) ∧ Numbered n M num lo hi ∧ w'.rowIs gR 26 n res ∧
  (∀ i, i < n → ∃ a c, res i = .slice a (z i).length c ∧ FlatAt w' a (z i) ∧ (z i).length ≤ 8192) ∧ ∀ u v, u < n → v < n → hi u = hi v → z u = z v

/-- The lists as far as they are copied. -/
def CopE (wN : World) (G n : Nat) (ff ll : Nat → Nat → Int) (mm : Nat → Nat) (i k : Nat) (w : World) : Prop := ∃ res, Cop w G n ff ll mm i k res ∧ Kept noS wN w

/-- The spans under each value, by choice: the same value, the same spans. -/
theorem spans_by_value (wN : World) (n : Nat) (I : Nat → Prop) : ∃ p : Value → Nat × (Nat → Int) × (Nat → Int), ∀ v, SpansOk wN n I v → SpansAt wN v (p v).1 (p v).2.1 (p v).2.2 ∧ Valid n (p v).1 (p v).2.1 (p v).2.2 := by
  have h : ∀ v, ∃ p : Nat × (Nat → Int) × (Nat → Int), SpansOk wN n I v → SpansAt wN v p.1 p.2.1 p.2.2 ∧ Valid n p.1 p.2.1 p.2.2 := fun v => by
    by_cases hv : SpansOk wN n I v
    · obtain ⟨m, f, l, h1, h2, _⟩ := hv
      exact ⟨(m, f, l), fun _ => ⟨h1, h2⟩⟩
    · exact ⟨(0, fun _ => 0, fun _ => 0), fun h => absurd h hv⟩
  exact ⟨fun v => Classical.choose (h v), fun v => Classical.choose_spec (h v)⟩
-- HEAD>

theorem kc0 {w : World} {p : Addr} {v : Value} (h : w.cell? p = some v) : w.drew.cell? p = some v := h
theorem kc1 {w : World} {p : Addr} {v : Value} (h : w.cell? p = some v) (o : Obj) : (w.alloc o).drew.cell? p = some v := ((Kept.refl noS w).alloc o).cell h (fun h => h)
theorem kc2 {w : World} {p : Addr} {v : Value} (h : w.cell? p = some v) (o o2 : Obj) : ((w.alloc o).alloc o2).drew.cell? p = some v := (((Kept.refl noS w).alloc o).alloc o2).cell h (fun h => h)
theorem kc3 {w : World} {p : Addr} {v : Value} (h : w.cell? p = some v) (o o2 o3 : Obj) : (((w.alloc o).alloc o2).alloc o3).drew.cell? p = some v := ((((Kept.refl noS w).alloc o).alloc o2).alloc o3).cell h (fun h => h)

theorem kc4 {w : World} {p : Addr} {v : Value} (h : w.cell? p = some v) (o o2 o3 : Obj) {H i : Nat} (hp : p.block ≠ H) (u : Value) : ((((w.alloc o).alloc o2).alloc o3).setCell ⟨H, i, none⟩ u).drew.cell? p = some v := ((Kept.refl (fun b => b = H) (((w.alloc o).alloc o2).alloc o3)).setCell (.inl rfl) u).cell (kc3 h o o2 o3) hp

theorem three {w W : World} {o1 o2 o3 : Obj} (h : (((w.alloc o1).alloc o2).alloc o3).drew = W) : Kept noS w W ∧ W.heap[w.heap.size]? = some o1 ∧ W.heap[w.heap.size + 1]? = some o2 ∧ W.heap[w.heap.size + 2]? = some o3 := by
  subst h
  have k : Kept noS w (((w.alloc o1).alloc o2).alloc o3) := (((Kept.refl noS w).alloc o1).alloc o2).alloc o3
  refine ⟨k.trans (Kept.drewN noS _ 1) (fun x hx => hx.elim), ?_, ?_, ?_⟩
  · show (((w.alloc o1).alloc o2).alloc o3).heap[_]? = _
    rw [Below.heap_alloc _ _ _ (by simp; omega), Below.heap_alloc _ _ _ (by simp)]
    exact alloc_at _ _ _ rfl
  · show (((w.alloc o1).alloc o2).alloc o3).heap[_]? = _
    rw [Below.heap_alloc _ _ _ (by simp)]
    exact alloc_at _ _ _ (by simp)
  · exact alloc_at _ _ _ (by simp)

theorem three' {w W : World} {o1 o2 o3 : Obj} (h : ((w.alloc o1).alloc o2).alloc o3 = W) : Kept noS w W ∧ W.heap[w.heap.size]? = some o1 ∧ W.heap[w.heap.size + 1]? = some o2 ∧ W.heap[w.heap.size + 2]? = some o3 := by
  subst h
  obtain ⟨h0, h1, h2, h3⟩ := three (w := w) (o1 := o1) (o2 := o2) (o3 := o3) rfl
  exact ⟨(((Kept.refl noS w).alloc o1).alloc o2).alloc o3, h1, h2, h3⟩

theorem drewN_below' (B : Nat) (w : World) (n : Nat) : Below B w (w.drewN n) := ⟨rfl, rfl, rfl, Nat.le_refl _, fun _ _ => rfl⟩

theorem Lay.drew {w : World} {H n m : Nat} {sp fp mp : Nat → Nat} {N : Nat → ByteArray} {deg : Nat → Nat} {ip A : Nat → Nat → Nat} {av : Nat → Value} (h : Lay w H n m sp fp mp N deg ip A av) : Lay w.drew H n m sp fp mp N deg ip A av :=
  ⟨h.src, h.fil, h.map, ⟨h.rws.own, h.rws.dj⟩, h.imp, h.sj, h.fj, h.mj, h.ij, h.adj, h.up, h.lst⟩

/-- The files as they lie when the first i have all their imports and the next has k. -/
def LayP (w0 w : World) (H n : Nat) (sp fp mp : Nat → Nat) (N : Nat → ByteArray) (M : Nat → List Nat) (i k : Nat) : Prop := ∃ deg ip av, Lay w H n n sp fp mp N deg ip (fun i k => (M i).getD k 0) av ∧ (∀ j, deg j = if j < i then (M j).length else if j = i then k else 0) ∧ Below H w0 w

def LayO (w0 w : World) (H n m : Nat) (N : Nat → ByteArray) (M : Nat → List Nat) : Prop := ∃ sp fp mp, Lay w H n m sp fp mp N (fun _ => 0) (fun _ _ => 0) (fun i k => (M i).getD k 0) (fun _ => .slice none 0 0) ∧ Below H w0 w

set_option maxHeartbeats 4000000 in
set_option maxRecDepth 100000 in
theorem zz_any (nm : Option Addr) (cN cA : Nat) (w : World) (n : Nat) (hn : n ≤ 4096) (a : Option Addr) (M : Nat → List Nat) (N : Nat → ByteArray)
   (hN : ∀ k, k < n → ∃ x : Addr, nm = some x ∧ w.cell? (x.add k) = some (.string (N k))) (hM : Mat w a n M) (hMr : ∀ i u, i < n → u ∈ M i → u < n) (hM0 : ∀ i, n ≤ i → M i = []) (hsum : sumTo (fun i => (M i).length) n ≤ 131072) (hdeg : ∀ i, i < n → (M i).length ≤ 131072) : Calls Try.prog 6 #[.slice nm n cN, .slice a n cA] w fun e w' => ZzTo n M e w' ∧ Below w.heap.size w w' := by
  have hmk41 := fun W => run_make_row' (P := Try.prog) 41 42 (.pointer none) 8 Try.underlying41 info42 rfl .i64 .i64 n (by omega) (by omega) W
  have HN : Hid (∀ k, k < n → ∃ x : Addr, nm = some x ∧ w.cell? (x.add k) = some (.string (N k))) := hN
  have HM : Hid (Mat w a n M) := hM
  have HMR : Hid (∀ i u, i < n → u ∈ M i → u < n) := hMr
  have HDG : Hid (∀ i, i < n → (M i).length ≤ 131072) := hdeg
  have HM0 : Hid (∀ i, n ≤ i → M i = []) := hM0
  have HSUM : Hid (sumTo (fun i => (M i).length) n ≤ 131072) := hsum
  clear hN hM hMr hdeg hM0 hsum
  obtain ⟨H, hH⟩ : ∃ H, H = w.heap.size := ⟨_, rfl⟩
  have HH : Hid (H = w.heap.size) := hH
  have HL0 : Hid (LayO w (w.alloc (.cells (madeCells #[.pointer none] n) 42)) H n 0 N M) := by
    rw [hH]
    exact ⟨_, _, _, Lay.zero w n N _, (Kept.refl noS w).alloc _ |>.below (Nat.le_refl _) (fun x hx => hx.elim)⟩
  go_enter Try.func6, Try.ntmps6
  clear hH
  go_upto_region 2 with fail
  rw [← HH.out]
  clear hmk41
  generalize w.alloc (.cells (madeCells #[.pointer none] n) 42) = w1 at *
  go_wp2
  go_loopg [29] n (fun gk z wr => ∃ i : Nat, z = .int .i64 i ∧ i ≤ n ∧ n - i ≤ gk ∧ Hid (LayO w wr H n i N M))
  case atStart => exact ⟨0, rfl, Nat.zero_le _, Nat.le_refl _, HL0⟩
  case round =>
    clear HL0
    obtain ⟨i, rfl, hi, hgi, HL⟩ := hrel
    obtain ⟨sp, fp, mp, HLy, HB⟩ : ∃ sp fp mp, Hid (Lay wr H n i sp fp mp N (fun _ => 0) (fun _ _ => 0) (fun i k => (M i).getD k 0) (fun _ => .slice none 0 0)) ∧ Hid (Below H w wr) := HL.out
    by_cases hin : i < n
    · -- <A
      obtain ⟨x, hx, hxc⟩ := HN.out i hin
      subst hx
      have e1 : wr.cell? (x.add i) = some (.string (N i)) := (HB.out.cell (by have := block_lt_of_cell hxc; have := HH.out; omega)).trans hxc
      have e2 := HLy.out.lst.cell hin
      have e3 := HLy.out.lst.frozen i
      have n1 : (0 : Int) ≤ (i : Int) := by omega
      have n2 : (i : Int) < (n : Int) := by omega
      simp only [Nat.lt_irrefl, if_false] at e2
      have hHlt := HLy.out.lst.lt
      have hxb := block_lt_of_cell hxc
      clear hxc
      go_upto_region 5 with fail
      have hmm := fun W => run_makeMap (P := Try.prog) 68 W
      have hl3 : ∀ o1 o2 o3 : Obj, (((wr.alloc o1).alloc o2).alloc o3).drew.cell? ⟨H, i, none⟩ = some (.pointer none) := fun o1 o2 o3 => kc3 e2 o1 o2 o3
      have hz3 : ∀ o1 o2 o3 : Obj, (((wr.alloc o1).alloc o2).alloc o3).drew.frozen? ⟨H, i, none⟩ = false := fun o1 o2 o3 => ((three (o1 := o1) (o2 := o2) (o3 := o3) rfl).1.row HLy.out.lst (fun h => h)).frozen i
      have hxH : (x.add i).block ≠ H := by
        have h1 := HH.out
        have h2 := hxb
        omega
      go_region_held3 (fun W => W.cell? (x.add i) = some (.string (N i))) (first | exact kc0 e1 | exact kc1 e1 _ | exact kc2 e1 _ _ | exact kc3 e1 _ _ _ | exact kc4 e1 _ _ _ hxH _) (fail)
      · clear hl3 hz3 hxH
        generalize hW : ((wr.alloc _).alloc _).alloc _ = W
        obtain ⟨k3, a1, a2, a3⟩ := three' hW
        clear hW
        obtain ⟨HL1, HB1⟩ : Hid (∃ sp' fp' mp', Lay (W.setCell ⟨H, i, none⟩ (.pointer (some ⟨wr.heap.size + 1 + 1, 0, none⟩))) H n (i + 1) sp' fp' mp' N (fun _ => 0) (fun _ _ => 0) (fun i k => (M i).getD k 0) (fun _ => .slice none 0 0)) ∧ Hid (Below H wr (W.setCell ⟨H, i, none⟩ (.pointer (some ⟨wr.heap.size + 1 + 1, 0, none⟩)))) :=
          HLy.out.laid hin k3 (f := wr.heap.size) (g := wr.heap.size + 1) (s := wr.heap.size + 1 + 1) (by omega) (by omega) (by omega) a1 rfl rfl rfl a2 a3 rfl rfl rfl rfl rfl
        clear k3 a1 a2 a3 e1 e2 e3
        go_wp2
        go_roundg (n - (i + 1))
        case measure => omega
        case rel =>
          obtain ⟨sp', fp', mp', hl⟩ := HL1.out
          exact ⟨i + 1, by go_num, by omega, Nat.le_refl _, ⟨sp', fp', mp', hl.drew, HB.out.trans (HB1.out.trans (drewN_below' _ _ 1))⟩⟩
      · clear hl3 hz3 hxH
        generalize hW : ((wr.alloc _).alloc _).alloc _ = W
        obtain ⟨k3, a1, a2, a3⟩ := three' hW
        clear hW
        obtain ⟨HL1, HB1⟩ : Hid (∃ sp' fp' mp', Lay (W.setCell ⟨H, i, none⟩ (.pointer (some ⟨wr.heap.size + 1 + 1, 0, none⟩))) H n (i + 1) sp' fp' mp' N (fun _ => 0) (fun _ _ => 0) (fun i k => (M i).getD k 0) (fun _ => .slice none 0 0)) ∧ Hid (Below H wr (W.setCell ⟨H, i, none⟩ (.pointer (some ⟨wr.heap.size + 1 + 1, 0, none⟩)))) :=
          HLy.out.laid hin k3 (f := wr.heap.size + 1) (g := wr.heap.size) (s := wr.heap.size + 1 + 1) (by omega) (by omega) (by omega) a2 rfl rfl rfl a1 a3 rfl rfl rfl rfl rfl
        clear k3 a1 a2 a3 e1 e2 e3
        go_wp2
        go_roundg (n - (i + 1))
        case measure => omega
        case rel =>
          obtain ⟨sp', fp', mp', hl⟩ := HL1.out
          exact ⟨i + 1, by go_num, by omega, Nat.le_refl _, ⟨sp', fp', mp', hl.drew, HB.out.trans (HB1.out.trans (drewN_below' _ _ 1))⟩⟩
      -- A>
    · have HLE : Hid (LayP w wr H n sp fp mp N M 0 0) := by
        have e : i = n := by omega
        have hl := HLy.out
        rw [e] at hl
        exact ⟨_, _, _, hl, fun j => by simp, HB.out⟩
      clear HL HLy HB HN
      go_wp2
      go_loopg [52] n (fun gk z wr => ∃ u : Nat, z = .int .i64 u ∧ u ≤ n ∧ n - u ≤ gk ∧ Hid (LayP w wr H n sp fp mp N M u 0))
      case atStart => exact ⟨0, rfl, Nat.zero_le _, Nat.le_refl _, HLE⟩
      case round =>
        clear HLE
        obtain ⟨u, rfl, hu, hgu, HL2⟩ := hrel
        by_cases hun : u < n
        · -- <B
          obtain ⟨x, b, c, hx, hxc, hrow⟩ := HM.out.row u hun
          have HROW : Hid (∀ k, k < (M u).length → ∃ y : Addr, b = some y ∧ w.cell? (y.add k) = some (.int .i64 ((M u).getD k 0 : Nat))) := hrow
          subst hx
          have n1 : (0 : Int) ≤ (u : Int) := by omega
          have n2 : (u : Int) < (n : Int) := by omega
          have e1 : wr.cell? (x.add u) = some (.slice b (M u).length c) := by
            obtain ⟨_, _, _, _, _, hb⟩ := HL2.out
            exact (hb.cell (by have := block_lt_of_cell hxc; have := HH.out; omega)).trans hxc
          clear hrow hxc
          have hdu := HDG.out u hun
          go_wp2
          clear e1
          obtain ⟨L, hL⟩ : ∃ L, L = (M u).length := ⟨_, rfl⟩
          have HLL : Hid (L = (M u).length) := hL
          rw [← hL] at hdu ⊢
          clear hL
          go_loopg [59] L (fun gk z wr => ∃ k : Nat, z = .int .i64 k ∧ k ≤ L ∧ L - k ≤ gk ∧ Hid (LayP w wr H n sp fp mp N M u k))
          case atStart => exact ⟨0, rfl, Nat.zero_le _, Nat.le_refl _, HL2⟩
          case round =>
            clear HL2
            obtain ⟨k, rfl, hk, hgk, HL3⟩ := hrel
            by_cases hkn : k < L
            · -- <C
              obtain ⟨y, hy, hyc⟩ := HROW.out k (by rw [← HLL.out]; exact hkn)
              subst hy
              obtain ⟨t, ht⟩ : ∃ t, t = (M u).getD k 0 := ⟨_, rfl⟩
              have HT : Hid (t = (M u).getD k 0) := ht
              rw [← ht] at hyc
              have htn : t < n := HMR.out u t hun (by
                rw [ht, List.getD_eq_getElem?_getD, List.getElem?_eq_getElem (by rw [← HLL.out]; exact hkn)]
                exact List.getElem_mem _)
              obtain ⟨deg, ip, av, HLy, HD, HB⟩ : ∃ deg ip av, Hid (Lay wr H n n sp fp mp N deg ip (fun i k => (M i).getD k 0) av) ∧ Hid (∀ j, deg j = if j < u then (M j).length else if j = u then k else 0) ∧ Hid (Below H w wr) := HL3.out
              have hdk : deg u = k := by have := HD.out u; simpa using this
              have HDU : Hid (deg u = k) := hdk
              obtain ⟨av0, ac, hav⟩ : ∃ a c, av u = .slice a (deg u) c := by
                have ho := HLy.out.rws.own u hun
                have hl : (ptrs (ip u) (deg u)).length = deg u := by simp [ptrs]
                rw [hl] at ho
                exact own_form ho
              have HAV : Hid (av u = .slice av0 (deg u) ac) := hav
              have e2 : wr.cell? (y.add k) = some (.int .i64 (t : Nat)) := (HB.out.cell (by have := block_lt_of_cell hyc; have := HH.out; omega)).trans hyc
              have n3 : (0 : Int) ≤ (k : Int) := by omega
              have n4 : (k : Int) < (L : Int) := by omega
              clear hyc ht hav hdk
              go_upto_region 14 with fail
              obtain ⟨q, hq⟩ : ∃ q, q = wr.heap.size := ⟨_, rfl⟩
              rw [← hq]
              generalize hW : wr.alloc (.cells _ 76) = W1
              have kW : Kept noS wr W1 := by rw [← hW]; exact (Kept.refl noS wr).alloc _
              have HI : Hid (ImpAt W1 q) := by rw [← hW]; exact ⟨_, alloc_at _ _ _ hq.symm⟩
              have HQ : Hid (wr.heap.size ≤ q) := by rw [hq]; exact Nat.le_refl _
              have kW2 : Kept noS wr (W1.alloc (.cells #[.pointer (some ⟨q, 0, none⟩)] 71)).drew := (kW.alloc _).trans (Kept.drewN noS _ 1) (fun x hx => hx.elim)
              obtain ⟨g, gc, w3, hrun, hown, hk3, hat⟩ := HLy.out.app hun (by rw [HDU.out]; omega) HAV.out kW2 (q := q) (q' := W1.heap.size) (alloc_at _ _ _ rfl)
              have himp2 : ImpAt (W1.alloc (.cells #[.pointer (some ⟨q, 0, none⟩)] 71)).drew q := by
                obtain ⟨ci, hci⟩ := HI.out
                exact ⟨ci, (((Kept.refl noS W1).alloc (.cells #[.pointer (some ⟨q, 0, none⟩)] 71)).block q (heap_lt hci) (fun h => h)).trans hci⟩
              obtain ⟨hf3, hl3, hs3, hl4, hs4, w5, hU, hL5, hB5⟩ := HLy.out.fin hun (t := t) (by rw [HDU.out]; exact HT.out.symm) htn kW2 HQ.out himp2 hown hk3 (by
                rcases hat with h | h
                · exact .inl h
                · have := kW2.size
                  exact .inr (by omega))
              obtain ⟨cf, hf3r, hf30, hf37⟩ := hf3
              obtain ⟨cs3, hs3r, hs30, _⟩ := hs3
              obtain ⟨cs4, hs4r, hs40, _, _, hs44⟩ := hs4
              have s1 := hl3.cell hun
              have s2 : w3.cell? ⟨sp u, 0, none⟩ = some (.pointer (some ⟨fp u, 0, none⟩)) := by rw [hs3r.cell (show 0 < 5 by omega), hs30]
              have s3 : w3.cell? ⟨fp u, 7, none⟩ = some (.slice av0 (deg u) ac) := by rw [hf3r.cell (show 7 < 15 by omega), hf37, HAV.out]
              have z3 := hf3r.frozen 7
              have t1 := hl4.cell hun
              have t2 := hl4.cell htn
              rw [if_pos hun] at s1 t1
              rw [if_pos htn] at t2
              have t3 : (w3.setCell ⟨fp u, 7, none⟩ (.slice (some ⟨g, 0, none⟩) (deg u + 1) gc)).cell? ⟨sp u, 4, none⟩ = some (.map (some (mp u))) := by rw [hs4r.cell (show 4 < 5 by omega), hs44]
              have d1 : W1.cell? ⟨H, u, none⟩ = some (.pointer (some ⟨sp u, 0, none⟩)) := by
                have := (kW.row HLy.out.lst (fun h => h)).cell hun
                rw [if_pos hun] at this
                exact this
              have d2 : W1.cell? ⟨sp u, 0, none⟩ = some (.pointer (some ⟨fp u, 0, none⟩)) := kW.cell (HLy.out.files.file u hun) (fun h => h)
              have d3 : W1.cell? ⟨fp u, 7, none⟩ = some (.slice av0 (deg u) ac) := by
                obtain ⟨c, h1, _, h2⟩ := HLy.out.fil u hun
                rw [(kW.row h1 (fun h => h)).cell (show 7 < 15 by omega), h2, HAV.out]
              have HRUN : Hid ((Builtin.append_ #[46, 46] 46 #[.slice av0 (deg u) ac, .slice (some ⟨W1.heap.size, 0, none⟩) 1 1]).run Try.prog (W1.alloc (.cells #[.pointer (some ⟨q, 0, none⟩)] 71)).drew = .ok (.slice (some ⟨g, 0, none⟩) (deg u + 1) gc) w3) := hrun
              have HL5 : Hid (LayP w w5 H n sp fp mp N M u (k + 1)) := ⟨_, _, _, hL5, fun j => by
                by_cases e : j = u
                · subst e; rw [upd_same, HDU.out]; simp
                · rw [upd_other _ _ e, HD.out j]; simp [e], HB.out.trans hB5⟩
              clear hW kW kW2 hown hk3 hat himp2 hL5 hB5 hrun hf3r hf30 hf37 hs3r hs30 hs4r hs40 hs44 hl3 hl4 e2 hq
              have m1 : (0 : Int) ≤ (u : Int) := by omega
              have m2 : (u : Int) < (n : Int) := by omega
              have m3 : (0 : Int) ≤ (t : Int) := by omega
              have m4 : (t : Int) < (n : Int) := by omega
              obtain ⟨S0, hS0⟩ : ∃ S0 : World → Prop, ∀ W, S0 W ↔ (W.cell? ⟨H, u, none⟩ = some (.pointer (some ⟨sp u, 0, none⟩)) ∧ W.cell? ⟨sp u, 0, none⟩ = some (.pointer (some ⟨fp u, 0, none⟩)) ∧ W.cell? ⟨fp u, 7, none⟩ = some (.slice av0 (deg u) ac)) := ⟨_, fun _ => Iff.rfl⟩
              have q1 : ∀ q : By S0, q.world.cell? ⟨H, u, none⟩ = some (.pointer (some ⟨sp u, 0, none⟩)) := fun q => ((hS0 _).1 q.held).1
              have q2 : ∀ q : By S0, q.world.cell? ⟨sp u, 0, none⟩ = some (.pointer (some ⟨fp u, 0, none⟩)) := fun q => ((hS0 _).1 q.held).2.1
              have q3 : ∀ q : By S0, q.world.cell? ⟨fp u, 7, none⟩ = some (.slice av0 (deg u) ac) := fun q => ((hS0 _).1 q.held).2.2
              have hw0 : S0 W1.drew := (hS0 _).2 ⟨kc0 d1, kc0 d2, kc0 d3⟩
              have hw1 : S0 (W1.alloc (.cells #[.pointer (some ⟨q, 0, none⟩)] 71)).drew := (hS0 _).2 ⟨kc1 d1 _, kc1 d2 _, kc1 d3 _⟩
              have hw3 : S0 w3 := (hS0 _).2 ⟨s1, s2, s3⟩
              have hne : Nonempty (By S0) := ⟨⟨_, hw0⟩⟩
              clear hS0
              refine wp_region_staged (S := S0) 18 5 (by kernel_rfl) (by kernel_rfl) (fun _ _ d _ _ h => by cases d <;> exact h) hw0 ?_
              simp only [lateOps, idle, List.dropLast, List.getLast?_cons_cons, List.getLast?_singleton, List.cons_append, List.nil_append, List.take_succ_cons, List.take_zero]
              go_big_quiet_step (fail)
              go_big_quiet_step (fail)
              go_big_quiet_step (fail)
              go_big_quiet_step (fail)
              go_big_quiet_step (fail)
              go_big_quiet_step (fail)
              go_big_quiet_step (fail)
              go_big_quiet_step (fail)
              go_big_quiet_step (fail)
              go_big_quiet_step (fail)
              go_big_quiet_step (fail)
              go_big_quiet_step (fail)
              go_big_quiet_step (fail)
              go_big_quiet_step (fail)
              go_big_quiet_step (fail)
              go_big_quiet_step (fail)
              go_big_quiet_step (fail)
              go_big_quiet_step (fail)
              refine wpQuiet_nil ?_
              clear q1 q2 q3
              refine wpAnyH_ready (rs := [18]) (by kernel_rfl) (by simp) ?_
              refine AllReadyH.cons (o := _) rfl (fun K hK => ?_) AllReadyH.nil
              go_simp
              refine hK.out _ _ ?_ (fun hHeld => ?_)
              · exact hw1
              clear hK K hHeld
              refine wpAnyH_ready (rs := [19]) (by kernel_rfl) (by simp) ?_
              refine AllReadyH.cons (o := _) rfl (fun K hK => ?_) AllReadyH.nil
              refine step_append_run rfl _ _ 46 46 rfl _ _ _ rfl rfl HRUN.out ?_
              refine hK.out _ _ ?_ (fun hHeld => ?_)
              · exact hw3
              clear hK K hHeld
              refine wpAnyH_ready (rs := [20]) (by kernel_rfl) (by simp) ?_
              refine AllReadyH.cons (o := _) rfl (fun K hK => ?_) AllReadyH.nil
              go_simp
              refine hK.out _ _ ?_ (fun hHeld => ?_)
              · exact hw3
              clear hK K hHeld
              refine wpAnyH_ready (rs := [21]) (by kernel_rfl) (by simp) ?_
              refine AllReadyH.cons (o := _) rfl (fun K hK => ?_) AllReadyH.nil
              go_simp
              refine hK.out _ _ ?_ (fun hHeld => ?_)
              · exact hw3
              clear hK K hHeld
              refine wpAnyH_ready (rs := [22]) (by kernel_rfl) (by simp) ?_
              refine AllReadyH.cons (o := _) rfl (fun K hK => ?_) AllReadyH.nil
              go_simp
              refine hK.out _ _ ?_ (fun hHeld => ?_)
              · exact hw3
              clear hK K hHeld
              refine wpAnyH_done (by kernel_rfl) ?_ _
              refine lateQ_normal ?_
              unfold lastWp
              simp only [List.getLast?_cons_cons, List.getLast?_singleton]
              go_wp2
              clear s1 s2 s3 z3 d1 d2 d3 HRUN hw0 hw1 hw3 hne
              generalize w3.setCell ⟨fp u, 7, none⟩ (.slice (some ⟨g, 0, none⟩) (deg u + 1) gc) = w4 at *
              obtain ⟨S1, hS1⟩ : ∃ S1 : World → Prop, ∀ W, S1 W ↔ (W.cell? ⟨H, u, none⟩ = some (.pointer (some ⟨sp u, 0, none⟩)) ∧ W.cell? ⟨sp u, 4, none⟩ = some (.map (some (mp u))) ∧ W.cell? ⟨H, t, none⟩ = some (.pointer (some ⟨sp t, 0, none⟩))) := ⟨_, fun _ => Iff.rfl⟩
              have q1 : ∀ q : By S1, q.world.cell? ⟨H, u, none⟩ = some (.pointer (some ⟨sp u, 0, none⟩)) := fun q => ((hS1 _).1 q.held).1
              have q2 : ∀ q : By S1, q.world.cell? ⟨sp u, 4, none⟩ = some (.map (some (mp u))) := fun q => ((hS1 _).1 q.held).2.1
              have q3 : ∀ q : By S1, q.world.cell? ⟨H, t, none⟩ = some (.pointer (some ⟨sp t, 0, none⟩)) := fun q => ((hS1 _).1 q.held).2.2
              have hw0 : S1 w4.drew := (hS1 _).2 ⟨kc0 t1, kc0 t3, kc0 t2⟩
              have hne : Nonempty (By S1) := ⟨⟨_, hw0⟩⟩
              clear hS1
              refine wp_region_staged (S := S1) 12 1 (by kernel_rfl) (by kernel_rfl) (fun _ _ d _ _ h => by cases d <;> exact h) hw0 ?_
              simp only [lateOps, idle, List.dropLast, List.getLast?_cons_cons, List.getLast?_singleton, List.cons_append, List.nil_append, List.take_succ_cons, List.take_zero]
              go_big_quiet_step (fail)
              go_big_quiet_step (fail)
              go_big_quiet_step (fail)
              go_big_quiet_step (fail)
              go_big_quiet_step (fail)
              go_big_quiet_step (fail)
              go_big_quiet_step (fail)
              go_big_quiet_step (fail)
              go_big_quiet_step (fail)
              go_big_quiet_step (fail)
              go_big_quiet_step (fail)
              go_big_quiet_step (fail)
              refine wpQuiet_nil ?_
              clear q1 q2 q3
              refine wpAnyH_ready (rs := [12]) (by kernel_rfl) (by simp) ?_
              refine AllReadyH.cons (o := _) rfl (fun K hK => ?_) AllReadyH.nil
              go_simp
              refine hK.out _ _ ?_ (fun hHeld => ?_)
              · exact hw0
              clear hK K hHeld hne hw0
              refine wpAnyH_done (by kernel_rfl) ?_ _
              refine lateQ_normal ?_
              unfold lastWp
              simp only [List.getLast?_cons_cons, List.getLast?_singleton]
              go_wp2
              go_roundg (L - (k + 1))
              case measure => omega
              case rel => exact ⟨k + 1, by go_num, by omega, Nat.le_refl _, HL5⟩
              -- C>
            · have HL6 : Hid (LayP w wr H n sp fp mp N M (u + 1) 0) := by
                obtain ⟨deg, ip, av, h1, h2, h3⟩ := HL3.out
                refine ⟨deg, ip, av, h1, fun j => ?_, h3⟩
                rw [h2 j]
                have hL := HLL.out
                by_cases e : j < u
                · rw [if_pos e, if_pos (by omega)]
                · by_cases e2 : j = u
                  · subst e2
                    rw [if_neg e, if_pos rfl, if_pos (by omega)]; omega
                  · rw [if_neg e, if_neg e2, if_neg (by omega)]; simp
              clear HL3
              go_wp2
              go_roundg (n - (u + 1))
              case measure => omega
              case rel => exact ⟨u + 1, by go_num, by omega, Nat.le_refl _, HL6⟩
          -- B>
        · obtain ⟨deg, ip, av, HLy, HDE, HB⟩ : ∃ deg ip av, Hid (Lay wr H n n sp fp mp N deg ip (fun i k => (M i).getD k 0) av) ∧ Hid (deg = fun j => (M j).length) ∧ Hid (Below H w wr) := by
            obtain ⟨deg, ip, av, h1, h2, h3⟩ := HL2.out
            refine ⟨deg, ip, av, h1, funext fun j => ?_, h3⟩
            rw [h2 j]
            have e : u = n := by omega
            subst e
            by_cases e1 : j < u
            · rw [if_pos e1]
            · rw [if_neg e1, HM0.out j (by omega)]; simp
          have h15 := new_any HLy.out.files H (fun k hk => by
            have := HLy.out.lst.cell hk
            rw [if_pos hk] at this
            exact this) hn (by rw [HDE.out]; exact HSUM.out)
          clear HMR HDG HM HL2 HM0 HSUM
          have h15' : Calls Try.prog 15 #[.slice (some ⟨H, 0, none⟩) n n] wr fun e w' => e = .returned (.pointer (some ⟨wr.heap.size + 3, 0, none⟩)) ∧ ∃ (gN gB gA : Nat) (num lo hi : Nat → Nat) (bv : Nat → Value) (fa la : Nat → Int) (ca : Option Addr) (cm cq : Nat) (I : Nat → Prop), w'.cell? ⟨wr.heap.size + 3, 0, none⟩ = some (.slice (some ⟨gN, 0, none⟩) n n) ∧ w'.cell? ⟨wr.heap.size + 3, 1, none⟩ = some (.slice (some ⟨gB, 0, none⟩) n n) ∧
              Hid (Res wr.heap.size n gN gB gA w' num bv fa la (.slice ca cm cq) I) ∧ Hid (Numbered n M num lo hi) ∧ Hid (∀ u v, u < n → v < n → hi u = hi v → bv u = bv v) ∧ Hid (Below wr.heap.size wr w') := h15.mono (by
            rintro _ w' ⟨rfl, ⟨gN, gB, gA, num, lo, hi, bv, fa, la, cyc, I, hP, hR, hNum, hS⟩, hB⟩
            refine ⟨rfl, ?_⟩
            rw [HDE.out, adjOf_mat] at hNum
            obtain ⟨m, f, l, h1, h2, _⟩ := hR.cs
            obtain ⟨ca, cq, hcv, _⟩ := h1.len
            rw [hcv] at hR
            exact ⟨gN, gB, gA, num, lo, hi, bv, fa, la, ca, m, cq, I, hR.cell0, hR.cell1, hR, hNum, hS, hB⟩)
          clear h15
          have hmk27 := fun W => run_make_row' (P := Try.prog) 27 26 (.slice none 0 0) 24 Try.underlying27 info26 rfl .i64 .i64 n (by omega) (by omega) W
          have HBw : Hid (∀ wN, Below wr.heap.size wr wN → Below w.heap.size w wN) := fun wN hb => by
            have h1 := HB.out
            have h2 := HLy.out.lst.lt
            rw [HH.out] at h1 h2
            exact h1.trans ⟨hb.os, hb.tape, hb.output, hb.size, fun k hk => hb.block k (by omega)⟩
          clear HLy HDE HB
          go_upto_region 19 with (go_at_call 15; refine h15'.mono ?_; rintro _ wN ⟨rfl, gN, gB, gA, num, lo, hi, bv, fa, la, ca, cm, cq, I, c0, c1, HR, HNUM, HSAM, HBN⟩)
          clear h15'
          have HBW : Hid (Below w.heap.size w wN) := HBw.out wN HBN.out
          clear HBN HBw
          generalize wr.heap.size = K at *
          go_upto_region 23 with fail
          clear hmk27
          obtain ⟨G, hG⟩ : ∃ G, G = wN.heap.size := ⟨_, rfl⟩
          have HG : Hid (G = wN.heap.size) := hG
          obtain ⟨p, hp⟩ := spans_by_value wN n I
          have HSP : Hid (∀ j, j < n → SpansAt wN (bv j) (p (bv j)).1 (p (bv j)).2.1 (p (bv j)).2.2 ∧ Valid n (p (bv j)).1 (p (bv j)).2.1 (p (bv j)).2.2) := fun j hj => hp _ (HR.out.bs j hj)
          have HSM : Hid (∀ u v, u < n → v < n → hi u = hi v → flatI (p (bv u)).2.1 (p (bv u)).2.2 (p (bv u)).1 = flatI (p (bv v)).2.1 (p (bv v)).2.2 (p (bv v)).1) := fun u v hu hv h => by rw [HSAM.out u v hu hv h]
          obtain ⟨mm, hmm⟩ : ∃ mm : Nat → Nat, mm = fun j => (p (bv j)).1 := ⟨_, rfl⟩
          obtain ⟨ff, hff⟩ : ∃ ff : Nat → Nat → Int, ff = fun j => (p (bv j)).2.1 := ⟨_, rfl⟩
          obtain ⟨ll, hll⟩ : ∃ ll : Nat → Nat → Int, ll = fun j => (p (bv j)).2.2 := ⟨_, rfl⟩
          have HSP : Hid (∀ j, j < n → SpansAt wN (bv j) (mm j) (ff j) (ll j) ∧ Valid n (mm j) (ff j) (ll j)) := by rw [hmm, hff, hll]; exact HSP
          have HSM : Hid (∀ u v, u < n → v < n → hi u = hi v → flatI (ff u) (ll u) (mm u) = flatI (ff v) (ll v) (mm v)) := by rw [hmm, hff, hll]; exact HSM
          have HC0 : Hid (CopE wN G n ff ll mm 0 0 (wN.alloc (.cells (madeCells #[.slice none 0 0] n) 26))) := by rw [hG]; exact ⟨_, Cop.zero wN n ff ll mm, (Kept.refl noS wN).alloc _⟩
          have c1' := kc1 c1 (.cells (madeCells #[.slice none 0 0] n) 26)
          rw [← hG]
          clear hp hmm hff hll hG HSAM c0 c1
          generalize wN.alloc (.cells (madeCells #[.slice none 0 0] n) 26) = w0 at *
          have c1 : w0.cell? ⟨K + 3, 1, none⟩ = some (.slice (some ⟨gB, 0, none⟩) n n) := c1'
          clear c1'
          go_wp2
          go_loopg [120] n (fun gk z wr => ∃ i : Nat, z = .int .i64 i ∧ i ≤ n ∧ n - i ≤ gk ∧ Hid (CopE wN G n ff ll mm i 0 wr))
          case atStart => exact ⟨0, rfl, Nat.zero_le _, Nat.le_refl _, HC0⟩
          case round =>
            clear HC0 c1
            obtain ⟨s, rfl, hs, hgs, HC⟩ := hrel
            by_cases hsn : s < n
            · -- <D
              obtain ⟨hsa, hsv⟩ := HSP.out s hsn
              obtain ⟨ba, bc, hbv, _⟩ := hsa.len
              have e1 : wr.cell? ⟨gB, s, none⟩ = some (.slice ba (mm s) bc) := by
                obtain ⟨_, _, hk⟩ := HC.out
                rw [← hbv]; exact (hk.row HR.out.br (fun h => h)).cell hsn
              have HBV : Hid (bv s = .slice ba (mm s) bc) := hbv
              have HSS : Hid (SpansAt wN (.slice ba (mm s) bc) (mm s) (ff s) (ll s)) := by rw [← hbv]; exact hsa
              have hmm : mm s ≤ n := hsv.1
              clear hsa hsv hbv
              have n1 : (0 : Int) ≤ (s : Int) := by omega
              have n2 : (s : Int) < (n : Int) := by omega
              go_wp2
              clear e1
              obtain ⟨L, hL⟩ : ∃ L, L = mm s := ⟨_, rfl⟩
              have HLL : Hid (L = mm s) := hL
              have HSS : Hid (SpansAt wN (.slice ba L bc) L (ff s) (ll s)) := by rw [hL]; exact HSS
              rw [← hL] at hmm ⊢
              clear hL
              go_loopg [127] L (fun gk z wr => ∃ k : Nat, z = .int .i64 k ∧ k ≤ L ∧ L - k ≤ gk ∧ Hid (CopE wN G n ff ll mm s k wr))
              case atStart => exact ⟨0, rfl, Nat.zero_le _, Nat.le_refl _, HC⟩
              case round =>
                clear HC
                obtain ⟨k, rfl, hk, hgk, HC3⟩ := hrel
                obtain ⟨res, HCo, HKK⟩ : ∃ res, Hid (Cop wr G n ff ll mm s k res) ∧ Hid (Kept noS wN wr) := HC3.out
                by_cases hkn : k < L
                · -- <E
                  obtain ⟨g0, hba, x1, x2⟩ : ∃ g, ba = some ⟨g, 0, none⟩ ∧ wr.cell? ⟨g, k * 2, none⟩ = some (.int .i32 (ff s k)) ∧ wr.cell? ⟨g, k * 2 + 1, none⟩ = some (.int .i32 (ll s k)) := by
                    obtain ⟨a2, c2, he, hf⟩ := (HSS.out.kept HKK.out (fun _ _ h => h)).len
                    obtain ⟨g, h1, h2, h3⟩ := hf k hkn
                    have : ba = a2 := by injection he
                    exact ⟨g, by rw [this]; exact h1, h2, h3⟩
                  subst hba
                  have n3 : (0 : Int) ≤ (k : Int) := by omega
                  have n4 : (k : Int) < (L : Int) := by omega
                  obtain ⟨ra, rc, hrv⟩ := own_form (HCo.out.own hsn)
                  have HRV : Hid (res s = .slice ra (k * 2) rc) := hrv
                  clear hrv
                  go_upto_region 29 with fail
                  obtain ⟨fk, hfk⟩ : ∃ fk, fk = ff s k := ⟨_, rfl⟩
                  obtain ⟨lk, hlk⟩ : ∃ lk, lk = ll s k := ⟨_, rfl⟩
                  obtain ⟨q, hq⟩ : ∃ q, q = wr.heap.size := ⟨_, rfl⟩
                  rw [← hfk, ← hlk, ← hq]
                  generalize hW : wr.alloc (.cells _ 85) = W1
                  have kW : Kept noS wr W1 := by rw [← hW]; exact (Kept.refl noS wr).alloc _
                  have b1 : W1.heap[q]? = some (.cells #[.int .i32 fk, .int .i32 lk] 85 (0, 0)) := by rw [← hW]; exact alloc_at _ _ _ hq.symm
                  have d1 : W1.cell? ⟨q, 0, none⟩ = some (.int .i32 fk) := cell_of_row _ _ 0 _ _ (0, 0) b1
                  have d2 : W1.cell? ⟨q, 1, none⟩ = some (.int .i32 lk) := cell_of_row _ _ 1 _ _ (0, 0) b1
                  have kW2 : Kept noS wr (W1.alloc (.cells #[.int .i32 fk, .int .i32 lk] 21)).drew := (kW.alloc _).trans (Kept.drewN noS _ 1) (fun x hx => hx.elim)
                  have hGz := HCo.out.rr.lt
                  obtain ⟨g, gc, w3, hrun, hown, hk3, hat⟩ := app_two (q := W1.heap.size) (kW2.owns (HCo.out.own hsn) (fun _ _ h => h)) (alloc_at W1 (.cells #[.int .i32 fk, .int .i32 lk] 21) _ rfl) (by have := kW2.size; omega) (by omega)
                  rw [hfk, hlk] at hown
                  obtain ⟨hr3, hC4, hB4⟩ := HCo.out.next hsn kW2 hown hk3 (by
                    rcases hat with h | h
                    · exact .inl h
                    · have := kW2.size
                      exact .inr (by omega))
                  have s1 : w3.cell? ⟨G, s, none⟩ = some (.slice ra (k * 2) rc) := by rw [hr3.cell hsn, HRV.out]
                  have z1 := hr3.frozen s
                  have s2 : w3.cell? ⟨q, 0, none⟩ = some (.int .i32 fk) := hk3.cell (kc1 d1 _) (fun e => by
                    have := heap_lt (own_block (HCo.out.own hsn) e).2.choose_spec
                    simp only at this
                    omega)
                  have s3 : w3.cell? ⟨q, 1, none⟩ = some (.int .i32 lk) := hk3.cell (kc1 d2 _) (fun e => by
                    have := heap_lt (own_block (HCo.out.own hsn) e).2.choose_spec
                    simp only at this
                    omega)
                  have d3 : W1.cell? ⟨G, s, none⟩ = some (.slice ra (k * 2) rc) := by rw [(kW.row HCo.out.rr (fun h => h)).cell hsn, HRV.out]
                  have HRUN : Hid ((Builtin.append_ #[26, 26] 26 #[.slice ra (k * 2) rc, .slice (some ⟨W1.heap.size, 0, none⟩) 2 2]).run Try.prog (W1.alloc (.cells #[.int .i32 fk, .int .i32 lk] 21)).drew = .ok (.slice (some ⟨g, 0, none⟩) (k * 2 + 2) gc) w3) := by rw [HRV.out] at hrun; exact hrun
                  have HC5 : Hid (CopE wN G n ff ll mm s (k + 1) (w3.setCell ⟨G, s, none⟩ (.slice (some ⟨g, 0, none⟩) (k * 2 + 2) gc))) := by
                    have hz := HKK.out.size
                    have hg := HG.out
                    exact ⟨_, hC4, ⟨hB4.os.trans HKK.out.os, hB4.tape.trans HKK.out.tape, hB4.output.trans HKK.out.output, Nat.le_trans hz hB4.size, fun b hb _ => (hB4.block b (by omega)).trans (HKK.out.block b hb (fun h => h))⟩⟩
                  clear hW kW b1 kW2 hGz hown hk3 hat hr3 hC4 hB4 hrun x1 x2 hfk hlk hq
                  obtain ⟨S0, hS0⟩ : ∃ S0 : World → Prop, ∀ W, S0 W ↔ (W.cell? ⟨G, s, none⟩ = some (.slice ra (k * 2) rc) ∧ W.cell? ⟨q, 0, none⟩ = some (.int .i32 fk) ∧ W.cell? ⟨q, 1, none⟩ = some (.int .i32 lk)) := ⟨_, fun _ => Iff.rfl⟩
                  have q1 : ∀ q0 : By S0, q0.world.cell? ⟨G, s, none⟩ = some (.slice ra (k * 2) rc) := fun q => ((hS0 _).1 q.held).1
                  have q2 : ∀ q0 : By S0, q0.world.cell? ⟨q, 0, none⟩ = some (.int .i32 fk) := fun q => ((hS0 _).1 q.held).2.1
                  have q3 : ∀ q0 : By S0, q0.world.cell? ⟨q, 1, none⟩ = some (.int .i32 lk) := fun q => ((hS0 _).1 q.held).2.2
                  have hw0 : S0 W1.drew := (hS0 _).2 ⟨kc0 d3, kc0 d1, kc0 d2⟩
                  have hw1 : S0 (W1.alloc (.cells #[.int .i32 fk, .int .i32 lk] 21)).drew := (hS0 _).2 ⟨kc1 d3 _, kc1 d1 _, kc1 d2 _⟩
                  have hw3 : S0 w3 := (hS0 _).2 ⟨s1, s2, s3⟩
                  have hne : Nonempty (By S0) := ⟨⟨_, hw0⟩⟩
                  clear hS0
                  refine wp_region_staged (S := S0) 10 4 (by kernel_rfl) (by kernel_rfl) (fun _ _ d _ _ h => by cases d <;> exact h) hw0 ?_
                  simp only [lateOps, idle, List.dropLast, List.getLast?_cons_cons, List.getLast?_singleton, List.cons_append, List.nil_append, List.take_succ_cons, List.take_zero]
                  go_big_quiet_step (fail)
                  go_big_quiet_step (fail)
                  go_big_quiet_step (fail)
                  go_big_quiet_step (fail)
                  go_big_quiet_step (fail)
                  go_big_quiet_step (fail)
                  go_big_quiet_step (fail)
                  go_big_quiet_step (fail)
                  go_big_quiet_step (fail)
                  go_big_quiet_step (fail)
                  refine wpQuiet_nil ?_
                  clear q1 q2 q3
                  refine wpAnyH_ready (rs := [10]) (by kernel_rfl) (by simp) ?_
                  refine AllReadyH.cons (o := _) rfl (fun K hK => ?_) AllReadyH.nil
                  go_simp
                  refine hK.out _ _ ?_ (fun hHeld => ?_)
                  · exact hw1
                  clear hK K hHeld
                  refine wpAnyH_ready (rs := [11]) (by kernel_rfl) (by simp) ?_
                  refine AllReadyH.cons (o := _) rfl (fun K hK => ?_) AllReadyH.nil
                  refine step_append_run rfl _ _ 26 26 rfl _ _ _ rfl rfl HRUN.out ?_
                  refine hK.out _ _ ?_ (fun hHeld => ?_)
                  · exact hw3
                  clear hK K hHeld
                  refine wpAnyH_ready (rs := [12]) (by kernel_rfl) (by simp) ?_
                  refine AllReadyH.cons (o := _) rfl (fun K hK => ?_) AllReadyH.nil
                  go_simp
                  refine hK.out _ _ ?_ (fun hHeld => ?_)
                  · exact hw3
                  clear hK K hHeld
                  refine wpAnyH_ready (rs := [13]) (by kernel_rfl) (by simp) ?_
                  refine AllReadyH.cons (o := _) rfl (fun K hK => ?_) AllReadyH.nil
                  go_simp
                  refine hK.out _ _ ?_ (fun hHeld => ?_)
                  · exact hw3
                  clear hK K hHeld
                  clear hw0 hw1 hw3 hne
                  refine wpAnyH_done (by kernel_rfl) ?_ _
                  refine lateQ_normal ?_
                  unfold lastWp
                  simp only [List.getLast?_cons_cons, List.getLast?_singleton]
                  go_wp2
                  go_roundg (L - (k + 1))
                  case measure => omega
                  case rel => exact ⟨k + 1, by go_num, by omega, Nat.le_refl _, HC5⟩
                  -- E>
                · have HC6 : Hid (CopE wN G n ff ll mm (s + 1) 0 wr) := by
                    have e : k = mm s := by have := HLL.out; omega
                    have h := HCo.out
                    rw [e] at h
                    exact ⟨res, h.step, HKK.out⟩
                  clear HC3 HCo HKK
                  go_wp2
                  go_roundg (n - (s + 1))
                  case measure => omega
                  case rel => exact ⟨s + 1, by go_num, by omega, Nat.le_refl _, HC6⟩
              -- D>
            · obtain ⟨res, HCo, HKK⟩ : ∃ res, Hid (Cop wr G n ff ll mm n 0 res) ∧ Hid (Kept noS wN wr) := by
                have e : s = n := by omega
                have h := HC.out
                rw [e] at h
                exact h
              have HMB : Hid (∀ j, j < n → mm j ≤ n) := fun j hj => (HSP.out j hj).2.1
              clear HC HSP
              have c2 : wr.cell? ⟨K + 3, 2, none⟩ = some (.slice (some ⟨gA, 0, none⟩) n n) := HKK.out.cell HR.out.cell2 (fun h => h)
              go_wp2
              clear c2
              obtain ⟨wA, hwA⟩ : ∃ wA, wA = wr := ⟨_, rfl⟩
              have HA0 : Hid (Kept noS wA wr) := by rw [hwA]; exact Kept.refl _ _
              have HO0 : Hid (∃ zz, wr.ownsRow wA.heap.size 21 1 (.slice none 0 0) (0 * 2) (vals zz)) := ⟨[], rfl, .inl ⟨rfl, rfl⟩⟩
              have HKA : Hid (Kept noS wN wA) := by rw [hwA]; exact HKK
              have HCA : Hid (Cop wA G n ff ll mm n 0 res) := by rw [hwA]; exact HCo
              clear hwA HKK HCo
              go_loopg [151, 6] n (fun gk z v wr => ∃ j : Nat, z = .int .i64 j ∧ j ≤ n ∧ n - j ≤ gk ∧ (∃ (a : Option Addr) (c : Nat), v = .slice a (j * 2) c) ∧ Hid (∃ zz, wr.ownsRow wA.heap.size 21 1 v (j * 2) (vals zz)) ∧ Hid (Kept noS wA wr))
              case atStart => exact ⟨0, rfl, Nat.zero_le _, Nat.le_refl _, ⟨none, 0, rfl⟩, HO0, HA0⟩
              case round =>
                clear HO0 HA0
                obtain ⟨j, rfl, hj, hgj, ⟨va, vc, rfl⟩, HO, HA⟩ := hrel
                by_cases hjn : j < n
                · -- <F
                  have r1 := (HR.out.ar.kept ((HKA.out.trans HA.out (fun x hx => hx.elim))) (fun h => h))
                  have x1 := r1.first hjn
                  have x2 := r1.last hjn
                  have n1 : (0 : Int) ≤ (j : Int) := by omega
                  have n2 : (j : Int) < (n : Int) := by omega
                  clear r1
                  go_upto_region 35 with fail
                  generalize hW : wr.alloc (.cells _ 85) = W1
                  have kW : Kept noS wr W1 := by rw [← hW]; exact (Kept.refl noS wr).alloc _
                  obtain ⟨q, hq⟩ : ∃ q, q = wr.heap.size := ⟨_, rfl⟩
                  have b1 : W1.heap[q]? = some (.cells #[.int .i32 (fa j), .int .i32 (la j)] 85 (0, 0)) := by rw [← hW]; exact alloc_at _ _ _ hq.symm
                  have d1 : W1.cell? ⟨q, 0, none⟩ = some (.int .i32 (fa j)) := cell_of_row _ _ 0 _ _ (0, 0) b1
                  have d2 : W1.cell? ⟨q, 1, none⟩ = some (.int .i32 (la j)) := cell_of_row _ _ 1 _ _ (0, 0) b1
                  rw [← hq]
                  have kW2 : Kept noS wr (W1.alloc (.cells #[.int .i32 (fa j), .int .i32 (la j)] 21)) := kW.alloc _
                  obtain ⟨zz, hzz⟩ := HO.out
                  obtain ⟨g, gc, w3, hrun, hown, hk3, hat⟩ := app_two (q := W1.heap.size) (kW2.owns hzz (fun _ _ h => h)) (alloc_at W1 (.cells #[.int .i32 (fa j), .int .i32 (la j)] 21) _ rfl) (by have := kW2.size; have := HA.out.size; omega) (by omega)
                  have HRUN : Hid ((Builtin.append_ #[26, 26] 26 #[.slice va (j * 2) vc, .slice (some ⟨W1.heap.size, 0, none⟩) 2 2]).run Try.prog (W1.alloc (.cells #[.int .i32 (fa j), .int .i32 (la j)] 21)) = .ok (.slice (some ⟨g, 0, none⟩) (j * 2 + 2) gc) w3) := hrun
                  have HA3 : Hid (Kept noS wA w3) := by
                    refine ((HA.out.trans kW2 (fun x hx => hx.elim)).mono (T := fun b => (Value.slice va (j * 2) vc).ownBlock = some b) (fun x hx => hx.elim)).trans hk3 (fun x hx => .inl hx) |> fun hk => ⟨hk.os, hk.tape, hk.output, hk.size, fun b hb _ => hk.block b hb (fun e => ?_)⟩
                    have := (own_block hzz e).1
                    omega
                  have HO3 : Hid (∃ zz, w3.ownsRow wA.heap.size 21 1 (.slice (some ⟨g, 0, none⟩) (j * 2 + 2) gc) (j * 2 + 2) (vals zz)) := ⟨_, hown⟩
                  have e2 : (j + 1) * 2 = j * 2 + 2 := by omega
                  clear hW kW b1 kW2 hown hk3 hat hrun x1 x2 hq hzz HO HA
                  have HE2 : Hid ((j + 1) * 2 = j * 2 + 2) := e2
                  clear e2
                  go_wp2_with (at_builtin; refine wpList_append_run rfl _ _ 26 26 rfl _ _ _ rfl rfl HRUN.out ?_)
                  go_roundg (n - (j + 1))
                  case measure => omega
                  case rel => exact ⟨j + 1, by go_num, by omega, Nat.le_refl _, ⟨_, _, by rw [HE2.out]⟩, by rw [HE2.out]; exact HO3, HA3⟩
                  -- F>
                · have HKB : Hid (Kept noS wN wr) := HKA.out.trans HA.out (fun x hx => hx.elim)
                  have HCB : Hid (Cop wr G n ff ll mm n 0 res) := HCA.out.kept HA.out
                  obtain ⟨fc, lc, HCY, hcm⟩ : ∃ fc lc, Hid (SpansAt wN (.slice ca cm cq) cm fc lc) ∧ cm ≤ n := by
                    obtain ⟨m, f, l, h1, h2, _⟩ := HR.out.cs
                    obtain ⟨a2, c2, he, _⟩ := h1.len
                    have : cm = m := by injection he
                    subst this
                    exact ⟨f, l, h1, h2.1⟩
                  have c3 : wr.cell? ⟨K + 3, 3, none⟩ = some (.slice ca cm cq) := HKB.out.cell HR.out.cell3 (fun h => h)
                  clear HO HA HKA HCA
                  generalize Value.slice va (j * 2) vc = v6
                  go_wp2
                  clear c3
                  obtain ⟨wB, hwB⟩ : ∃ wB, wB = wr := ⟨_, rfl⟩
                  have HA0 : Hid (Kept noS wB wr) := by rw [hwB]; exact Kept.refl _ _
                  have HO0 : Hid (∃ zz, wr.ownsRow wB.heap.size 21 1 (.slice none 0 0) (0 * 2) (vals zz)) := ⟨[], rfl, .inl ⟨rfl, rfl⟩⟩
                  have HKC : Hid (Kept noS wN wB) := by rw [hwB]; exact HKB
                  have HCC : Hid (Cop wB G n ff ll mm n 0 res) := by rw [hwB]; exact HCB
                  clear hwB HKB HCB
                  go_loopg [168, 7] cm (fun gk z v wr => ∃ j : Nat, z = .int .i64 j ∧ j ≤ cm ∧ cm - j ≤ gk ∧ (∃ (a : Option Addr) (c : Nat), v = .slice a (j * 2) c) ∧ Hid (∃ zz, wr.ownsRow wB.heap.size 21 1 v (j * 2) (vals zz)) ∧ Hid (Kept noS wB wr))
                  case atStart => exact ⟨0, rfl, Nat.zero_le _, Nat.le_refl _, ⟨none, 0, rfl⟩, HO0, HA0⟩
                  case round =>
                    clear HO0 HA0
                    obtain ⟨j, rfl, hj, hgj, ⟨va, vc, rfl⟩, HO, HA⟩ := hrel
                    by_cases hjn : j < cm
                    · -- <Q
                      obtain ⟨g0, hca, x1, x2⟩ : ∃ g, ca = some ⟨g, 0, none⟩ ∧ wr.cell? ⟨g, j * 2, none⟩ = some (.int .i32 (fc j)) ∧ wr.cell? ⟨g, j * 2 + 1, none⟩ = some (.int .i32 (lc j)) := by
                        obtain ⟨a2, c2, he, hf⟩ := (HCY.out.kept (HKC.out.trans HA.out (fun x hx => hx.elim)) (fun _ _ h => h)).len
                        obtain ⟨g, h1, h2, h3⟩ := hf j hjn
                        have : ca = a2 := by injection he
                        exact ⟨g, by rw [this]; exact h1, h2, h3⟩
                      subst hca
                      have n1 : (0 : Int) ≤ (j : Int) := by omega
                      have n2 : (j : Int) < (cm : Int) := by omega
                      go_upto_region 40 with fail
                      generalize hW : wr.alloc (.cells _ 85) = W1
                      have kW : Kept noS wr W1 := by rw [← hW]; exact (Kept.refl noS wr).alloc _
                      obtain ⟨q, hq⟩ : ∃ q, q = wr.heap.size := ⟨_, rfl⟩
                      have b1 : W1.heap[q]? = some (.cells #[.int .i32 (fc j), .int .i32 (lc j)] 85 (0, 0)) := by rw [← hW]; exact alloc_at _ _ _ hq.symm
                      have d1 : W1.cell? ⟨q, 0, none⟩ = some (.int .i32 (fc j)) := cell_of_row _ _ 0 _ _ (0, 0) b1
                      have d2 : W1.cell? ⟨q, 1, none⟩ = some (.int .i32 (lc j)) := cell_of_row _ _ 1 _ _ (0, 0) b1
                      rw [← hq]
                      have kW2 : Kept noS wr (W1.alloc (.cells #[.int .i32 (fc j), .int .i32 (lc j)] 21)) := kW.alloc _
                      obtain ⟨zz, hzz⟩ := HO.out
                      obtain ⟨g, gc, w3, hrun, hown, hk3, hat⟩ := app_two (q := W1.heap.size) (kW2.owns hzz (fun _ _ h => h)) (alloc_at W1 (.cells #[.int .i32 (fc j), .int .i32 (lc j)] 21) _ rfl) (by have := kW2.size; have := HA.out.size; omega) (by omega)
                      have HRUN : Hid ((Builtin.append_ #[26, 26] 26 #[.slice va (j * 2) vc, .slice (some ⟨W1.heap.size, 0, none⟩) 2 2]).run Try.prog (W1.alloc (.cells #[.int .i32 (fc j), .int .i32 (lc j)] 21)) = .ok (.slice (some ⟨g, 0, none⟩) (j * 2 + 2) gc) w3) := hrun
                      have HA3 : Hid (Kept noS wB w3) := by
                        refine ((HA.out.trans kW2 (fun x hx => hx.elim)).mono (T := fun b => (Value.slice va (j * 2) vc).ownBlock = some b) (fun x hx => hx.elim)).trans hk3 (fun x hx => .inl hx) |> fun hk => ⟨hk.os, hk.tape, hk.output, hk.size, fun b hb _ => hk.block b hb (fun e => ?_)⟩
                        have := (own_block hzz e).1
                        omega
                      have HO3 : Hid (∃ zz, w3.ownsRow wB.heap.size 21 1 (.slice (some ⟨g, 0, none⟩) (j * 2 + 2) gc) (j * 2 + 2) (vals zz)) := ⟨_, hown⟩
                      have e2 : (j + 1) * 2 = j * 2 + 2 := by omega
                      clear hW kW b1 kW2 hown hk3 hat hrun x1 x2 hq hzz HO HA
                      have HE2 : Hid ((j + 1) * 2 = j * 2 + 2) := e2
                      clear e2
                      go_wp2_with (at_builtin; refine wpList_append_run rfl _ _ 26 26 rfl _ _ _ rfl rfl HRUN.out ?_)
                      go_roundg (cm - (j + 1))
                      case measure => omega
                      case rel => exact ⟨j + 1, by go_num, by omega, Nat.le_refl _, ⟨_, _, by rw [HE2.out]⟩, by rw [HE2.out]; exact HO3, HA3⟩
                      -- Q>
                    · have HFIN : Hid (∀ v6 v7, ZzTo n M (.returned (.tuple #[.slice (some ⟨gN, 0, none⟩) n n, .slice (some ⟨G, 0, none⟩) n n, v6, v7])) wr) := fun v6 v7 => by
                        have hC := HCC.out.kept HA.out
                        have hK := HKC.out.trans HA.out (fun x hx => hx.elim)
                        refine ⟨gN, G, num, lo, hi, res, fun j => flatI (ff j) (ll j) (mm j), v6, v7, rfl, hK.row HR.out.nr (fun h => h), HNUM.out, hC.rr, fun i hi => ?_, HSM.out⟩
                        obtain ⟨a, c, h1, h2⟩ := hC.done hi
                        refine ⟨a, c, h1, h2, ?_⟩
                        rw [flatI_length]
                        have := HMB.out i hi
                        omega
                      have HBB : Hid (Below w.heap.size w wr) := HBW.out.trans ((HKC.out.trans HA.out (fun x hx => hx.elim)).below HBW.out.size (fun x hx => hx.elim))
                      clear HO HA
                      go_wp2
                      (try simp only [Exit.inBlock, Exit.then])
                      refine bodyPost_ret (results_tmp4 rfl _ _ _) rfl ?_
                      exact ⟨HFIN.out _ _, HBB.out⟩
