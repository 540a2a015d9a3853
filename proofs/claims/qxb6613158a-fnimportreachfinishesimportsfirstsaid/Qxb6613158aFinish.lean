/-
  THE WALK of finish (19).
-/
import Derived.Test.Qxb6613158aRes
import Derived.Test.Qxb6613158aRange
import Derived.Deep.DeepCutAuto
import Derived.Deep.CutRange
namespace Go.Proofs.Qxb6613158a
open Go.RowKit Tj
set_option linter.unusedSimpArgs false
set_option linter.unusedVariables false

variable {H n gN gB gA : Nat} {w w' : World} {num : Nat → Nat} {bv : Nat → Value} {fa la : Nat → Int} {cyc : Value} {J : Nat → Prop} {sp fp mp : Nat → Nat} {N : Nat → ByteArray} {deg : Nat → Nat} {ip A : Nat → Nat → Nat} {O : Nat → Bool}

theorem sf_ge (hP : Places H gN gB gA) {x : Nat} (hx : Sf H gN gB gA x) : H ≤ x ∧ x ≤ H + 8 := by
  obtain ⟨p1, p2, p3, p4, p5, p6, p7, p8, p9⟩ := hP
  unfold Sf at hx
  omega

set_option maxHeartbeats 4000000 in
set_option maxRecDepth 100000 in
theorem finish_any (wF : World) (hF : Files wF n sp fp mp N deg ip A) (hB : Below wF.heap.size wF w) (hH : wF.heap.size ≤ H) (hP : Places H gN gB gA) (hR : Res H n gN gB gA w num bv fa la cyc J) (hO : w.rowIs (H + 8) 4 n (fun i => .bool (O i))) (hsz : H + 13 ≤ w.heap.size)
    (pb o m c first : Nat) (S : Nat → Nat) (hpb : H + 13 ≤ pb) (hset : ∀ k, k < m → w.cell? ⟨pb, o + k, none⟩ = some (.pointer (some ⟨sp (S k), 0, none⟩))) (hS : ∀ k, k < m → S k < n) (hm : 0 < m) (hfm : first + m ≤ n) (hn : n ≤ 4096) (hsum : sumTo (fun k => deg (S k)) m ≤ 131072) :
    Calls Try.prog 19 #[.pointer (some ⟨H + 3, 0, none⟩), .slice (some ⟨pb, o, none⟩) m c, .int .i32 (first : Nat), .slice (some ⟨H + 8, 0, none⟩) n n] w fun e w' => e = .returned (.tuple #[]) ∧
      (∃ v fa' la' cyc' J', Res H n gN gB gA w' (setTo num S (fun j => first + j) m) (setTo bv S (fun _ => v) m) fa' la' cyc' J' ∧ w'.rowIs (H + 8) 4 n (fun i => .bool (setTo O S (fun _ => false) m i)) ∧ (∀ q, J q → J' q) ∧ (∀ q, J' q → J q ∨ w.heap.size ≤ q)) ∧ Kept (Sf H gN gB gA) w w' := by
  have HF : Hid (Files wF n sp fp mp N deg ip A) := hF
  have HB : Hid (Below wF.heap.size wF w) := hB
  have HP : Hid (Places H gN gB gA) := hP
  have HR : Hid (Res H n gN gB gA w num bv fa la cyc J) := hR
  have HO : Hid (w.rowIs (H + 8) 4 n (fun i => .bool (O i))) := hO
  have HSET : Hid (∀ k, k < m → w.cell? ⟨pb, o + k, none⟩ = some (.pointer (some ⟨sp (S k), 0, none⟩))) := hset
  have HS : Hid (∀ k, k < m → S k < n) := hS
  have hBz := hB.size
  clear hF hB hP hR hO hset hS
  go_enter Try.func19, Try.ntmps19
  go_wp2
  go_loopg [23] m (fun gk z wr => ∃ k : Nat, z = .int .i64 k ∧ k ≤ m ∧ m - k ≤ gk ∧ Hid (∃ fa' la', Res H n gN gB gA wr (setTo num S (fun j => first + j) k) bv fa' la' cyc J) ∧ Hid (wr.rowIs (H + 8) 4 n (fun i => .bool (setTo O S (fun _ => false) k i))) ∧ Hid (Kept (fun b => b = gN ∨ b = gA ∨ b = H + 8) w wr))
  case atStart => exact ⟨0, rfl, Nat.zero_le _, Nat.le_refl _, ⟨fa, la, HR.out⟩, HO, Kept.refl _ _⟩
  case round =>
    obtain ⟨k, rfl, hk, hgk, HR1, HO1, HK1⟩ := hrel
    have hsz1 := HK1.out.size

    obtain ⟨p1, p2, p3, p4, p5, p6, p7, p8, p9⟩ := HP.out
    have HB1 : Hid (Below wF.heap.size wF wr) := HB.out.trans (HK1.out.below HB.out.size (fun x hx => by omega))
    by_cases hlt : k < m
    · obtain ⟨fa1, la1, hR1⟩ := HR1.out
      have ht := HS.out k hlt
      have e1 := HK1.out.cell (HSET.out k hlt) (by show ¬ (pb = gN ∨ pb = gA ∨ pb = H + 8); omega)
      have e2 := (HF.out.below HB1.out).id (S k) ht
      have hspl : sp (S k) < wF.heap.size := block_lt_of_cell (HF.out.id (S k) ht)
      have e3 := hR1.cell0
      have e4 := hR1.cell2
      have e5 := hR1.nr.cell ht
      have z5 := hR1.nr.frozen (S k)
      have e6 := hR1.ar.first ht
      have e7 := hR1.ar.last ht
      have z6 := hR1.ar.frozen (S k * 2)
      have z7 := hR1.ar.frozen (S k * 2 + 1)
      have e8 := World.rowIs.cell (show wr.rowIs (H + 8) 4 n _ from HO1.out) ht
      have z8 := World.rowIs.frozen (show wr.rowIs (H + 8) 4 n _ from HO1.out) (S k)
      have hnum := hR1.numbered HP.out HO1.out ht (x := first + k) (by omega)
      have hc : ((first + k : Nat) : Int) = (first : Int) + (k : Int) := by omega
      rw [hc] at hnum
      obtain ⟨W2, hW2⟩ : ∃ W2, W2 = ((((wr.setCell ⟨gN, S k, none⟩ (.int .i32 ((first : Int) + (k : Int)))).setCell ⟨gA, S k * 2, none⟩ (.int .i32 ((first : Int) + (k : Int)))).setCell ⟨gA, S k * 2 + 1, none⟩ (.int .i32 ((first : Int) + (k : Int)))).setCell ⟨H + 8, S k, none⟩ (.bool false)).drew := ⟨_, rfl⟩
      have HN : Hid ((∃ fa' la', Res H n gN gB gA W2 (upd (setTo num S (fun j => first + j) k) (S k) (first + k)) bv fa' la' cyc J) ∧ W2.rowIs (H + 8) 4 n (fun i => .bool (upd (setTo O S (fun _ => false) k) (S k) false i)) ∧ Kept (fun b => b = gN ∨ b = gA ∨ b = H + 8) wr W2) := by rw [hW2]; exact hnum
      have HW2 : Hid (W2 = ((((wr.setCell ⟨gN, S k, none⟩ (.int .i32 ((first : Int) + (k : Int)))).setCell ⟨gA, S k * 2, none⟩ (.int .i32 ((first : Int) + (k : Int)))).setCell ⟨gA, S k * 2 + 1, none⟩ (.int .i32 ((first : Int) + (k : Int)))).setCell ⟨H + 8, S k, none⟩ (.bool false)).drew) := hW2
      clear hnum hc hW2
      generalize hT : S k = t at *
      have n1 : (0 : Int) ≤ (t : Int) := by omega
      have n2 : (t : Int) < (n : Int) := by omega
      have n3 : ¬ (gN = sp t) := by omega
      have n4 : ¬ (gA = sp t) := by omega
      have n5 : ¬ (H + 8 = sp t) := by omega
      have n6 : ¬ (gN = H + 3) := by omega
      have n7 : ¬ (gA = H + 3) := by omega
      have n8 : ¬ (gN = gA) := by omega
      have n9 : ¬ (gA = gN) := by omega
      have n10 : ¬ (H + 8 = gN) := by omega
      have n11 : ¬ (H + 8 = gA) := by omega
      clear hR1
      -- <A
      go_wp2
      go_region_held3 (fun W => W.cell? ⟨H + 3, 0, none⟩ = some (.slice (some ⟨gN, 0, none⟩) n n) ∧ W.cell? ⟨H + 3, 2, none⟩ = some (.slice (some ⟨gA, 0, none⟩) n n) ∧ W.cell? ⟨sp t, 1, none⟩ = some (.int .i64 (t : Nat))) (go_keep) (fail)
      rw [← HW2.out]
      go_wp2
      go_roundg (m - (k + 1))
      case measure => omega
      case rel =>
        obtain ⟨hn1, hn2, hn3⟩ := HN.out
        rw [← hT] at hn1 hn2
        exact ⟨k + 1, by go_num, by omega, Nat.le_refl _, hn1, hn2, HK1.out.trans hn3 (fun x hx => .inl hx)⟩
      -- A>
    · have hkm : k = m := by omega
      have hnl : ¬ (k : Int) < (m : Int) := by omega
      rw [hkm] at HR1 HO1
      clear hkm
      obtain ⟨fa1, la1, HR2⟩ : ∃ fa1 la1, Hid (Res H n gN gB gA wr (setTo num S (fun j => first + j) m) bv fa1 la1 cyc J) := HR1.out
      generalize wr = w1 at *
      generalize hnm : setTo num S (fun j => first + j) m = nm at *
      generalize hOm : setTo O S (fun _ => false) m = Om at *
      clear HR HO HR1
      go_wp2
      go_loopg [11, 12, 66] m (fun gk x b z wq => ∃ (k2 cn : Nat) (bb : Bool), z = .int .i64 k2 ∧ b = .bool bb ∧ k2 ≤ m ∧ m - k2 ≤ gk ∧ Hid (Got wq w1.heap.size n x cn) ∧ cn ≤ 4097 * sumTo (fun k => deg (S k)) k2 ∧ Hid (Kept noS w1 wq))
      case atStart => exact ⟨0, 0, _, rfl, rfl, Nat.zero_le _, Nat.le_refl _, ⟨fun _ => 0, fun _ => 0, .inl ⟨rfl, rfl⟩, fun _ => rfl, fun j hj => absurd hj (Nat.not_lt_zero _)⟩, Nat.zero_le _, Kept.refl _ _⟩
      case round =>
        obtain ⟨k2, cn, bb, rfl, rfl, hk2, hgk2, HG, hcn, HK2⟩ := hrel
        have hsz2 := HK2.out.size
        have HB2 : Hid (Below wF.heap.size wF wr) := HB1.out.trans (HK2.out.below HB1.out.size (fun x hx => hx.elim))
        by_cases hlt2 : k2 < m
        · have ht := HS.out k2 hlt2
          have e1 := HK2.out.cell (HK1.out.cell (HSET.out k2 hlt2) (by show ¬ (pb = gN ∨ pb = gA ∨ pb = H + 8); omega)) (fun h => h)
          have hF2 := HF.out.below HB2.out
          have e2 := hF2.targets (S k2) ht
          have e3 := hF2.map (S k2) ht
          have hrg := run_range_map (P := Try.prog) wr 68 71 42 (mp (S k2)) _ _ Try.underlying68 e3
          have hmpl : mp (S k2) < wF.heap.size := heap_lt (HF.out.map (S k2) ht)
          have hsum2 : sumTo (fun k => deg (S k)) k2 + deg (S k2) ≤ 131072 := Nat.le_trans (sumTo_le (fun k => deg (S k)) (show k2 + 1 ≤ m by omega)) hsum
          have HF2 : Hid (Files wr n sp fp mp N deg ip A) := hF2
          clear hF2 e3
          have HI0 : Hid ((wr.alloc (.mapIter (some (mp (S k2))) (deg (S k2)) #[] (deg (S k2)))).heap[wr.heap.size]? = some (.mapIter (some (mp (S k2))) (deg (S k2)) #[] (deg (S k2)))) := heap_alloc_new wr _
          have HKA : Hid (Kept noS w1 (wr.alloc (.mapIter (some (mp (S k2))) (deg (S k2)) #[] (deg (S k2))))) := (show Kept noS w1 _ from HK2.out.alloc _)
          have HGA : ∀ x, Hid (Got wr w1.heap.size n x cn) → Hid (Got (wr.alloc (.mapIter (some (mp (S k2))) (deg (S k2)) #[] (deg (S k2)))) w1.heap.size n x cn) := fun x hx => (show Got _ w1.heap.size n x cn from hx.out.kept ((Kept.refl noS wr).alloc _) (fun _ _ h => h))
          have HGA := HGA _ HG
          have HGO : Hid _ := fun q hq => HG.out.own (q := q) hq
          have hl0 := leftN_le (ip (S k2)) (fun k => sp (A (S k2) k)) (deg (S k2)) #[]
          generalize hT : S k2 = t at *
          go_wp2
          generalize hw2 : wr = w2 at *
          go_loopg [11, 12] (deg t) (fun gk x b wq => ∃ (cn3 : Nat) (bb : Bool) (seen : Array Nat), b = .bool bb ∧ leftN (ip t) (fun k => sp (A t k)) (deg t) seen ≤ gk ∧ Hid (wq.heap[w2.heap.size]? = some (.mapIter (some (mp t)) (deg t) seen (deg t))) ∧ Hid (Got wq w1.heap.size n x cn3) ∧ cn3 + 4097 * leftN (ip t) (fun k => sp (A t k)) (deg t) seen ≤ 4097 * (sumTo (fun k => deg (S k)) k2 + deg t) ∧ Hid (x.ownBlock ≠ some w2.heap.size) ∧ w2.heap.size < wq.heap.size ∧ Hid (Kept noS w1 wq))
          case atStart => exact ⟨cn, bb, #[], rfl, hl0, HI0, HGA, by omega, fun h => by have := (HGO.out _ h).2; omega, by simp, HKA⟩
          case round =>
            obtain ⟨cn3, bb3, seen, rfl, hleft, HIT, HG3, hcn3, HNE, hszR, HK3⟩ := hrel
            have HB3 : Hid (Below wF.heap.size wF wr) := HB1.out.trans (HK3.out.below HB1.out.size (fun x hx => hx.elim))
            have hstep := range_step wr w2.heap.size (mp t) (deg t) seen (ip t) (fun k => sp (A t k)) HIT.out ((HF.out.below HB3.out).map t ht) (by omega)
            rcases hstep with hnx | ⟨j, W, seen', hj, hnx, hen, hit, hless, hkW⟩
            -- <C
            · go_wp2
              go_roundg (m - (k2 + 1))
              case measure => omega
              case rel => exact ⟨k2 + 1, cn3, bb3, by go_num, rfl, by omega, Nat.le_refl _, HG3, by show cn3 ≤ 4097 * (sumTo (fun k => deg (S k)) k2 + deg (S k2)); rw [hT]; omega, HK3⟩
            · have KW : Hid (Kept noS w1 W) := (show Kept noS w1 W from HK3.out.trans hkW (fun x hx => .inr (by omega)))
              have hu := HF.out.adj t j ht hj
              have HBW : Hid (Below wF.heap.size wF W) := HB1.out.trans (KW.out.below HB1.out.size (fun x hx => hx.elim))
              have RW : Hid (Res H n gN gB gA W nm bv fa1 la1 cyc J) := HR2.out.kept KW.out (fun h => h) (fun h => h) (fun h => h) (fun h => h) (fun _ _ h => h)
              have GW : Hid (Got W w1.heap.size n u11 cn3) := HG3.out.kept hkW (fun g hg he => HNE.out (he ▸ hg))
              have e3 := (HF.out.below HBW.out).id _ hu
              have e4 := RW.out.cell0
              have e5 := RW.out.nr.cell hu
              have HIW : Hid (W.heap[w2.heap.size]? = some (.mapIter (some (mp t)) (deg t) seen' (deg t))) := hit
              have hszW := hkW.size
              clear hit hkW
              generalize hU : A t j = u at *
              have n1 : (0 : Int) ≤ (u : Int) := by omega
              have n2 : (u : Int) < (n : Int) := by omega
              have hD : Hid (Files W.drew n sp fp mp N deg ip A) := HF.out.below (HBW.out.trans ((Kept.drewN noS W 1).below HBW.out.size (fun x hx => hx.elim)))
              have GD : Hid (Got W.drew w1.heap.size n u11 cn3) := GW.out.kept (Kept.drewN noS W 1) (fun _ _ h => h)
              have KD : Hid (Kept noS w1 W.drew) := (show Kept noS w1 W.drew from KW.out.trans (Kept.drewN noS W 1) (fun x hx => hx.elim))
              have HID : Hid (W.drew.heap[w2.heap.size]? = some (.mapIter (some (mp t)) (deg t) seen' (deg t))) := HIW.out
              have hszD : wr.heap.size ≤ W.drew.heap.size := hszW
              by_cases hge : first ≤ nm u
              · have hgi : (first : Int) ≤ (nm u : Int) := by omega
                -- <B
                have FIN : ∀ b3 : Bool, Hid (∃ (cn' : Nat) (bb : Bool) (seen : Array Nat), Value.bool b3 = .bool bb ∧ leftN (ip t) (fun k => sp (A t k)) (deg t) seen ≤ leftN (ip t) (fun k => sp (A t k)) (deg t) seen' ∧ Hid (W.drew.heap[w2.heap.size]? = some (.mapIter (some (mp t)) (deg t) seen (deg t))) ∧ Hid (Got W.drew w1.heap.size n u11 cn') ∧ cn' + 4097 * leftN (ip t) (fun k => sp (A t k)) (deg t) seen ≤ 4097 * (sumTo (fun k => deg (S k)) k2 + deg t) ∧ Hid (u11.ownBlock ≠ some w2.heap.size) ∧ w2.heap.size < W.drew.heap.size ∧ Hid (Kept noS w1 W.drew)) := fun b3 => ⟨cn3, b3, seen', rfl, Nat.le_refl _, HID, GD, by omega, HNE, by omega, KD⟩
                have HFIN : Hid _ := FIN
                clear FIN
                cases bb3 with
                | true =>
                  go_wp2
                  go_region_held3 (fun W => W.cell? ⟨H + 3, 0, none⟩ = some (.slice (some ⟨gN, 0, none⟩) n n) ∧ W.cell? ⟨sp u, 1, none⟩ = some (.int .i64 (u : Nat)) ∧ W.cell? ⟨gN, u, none⟩ = some (.int .i32 (nm u : Nat))) (go_keep) (fail)
                  go_wp2
                  go_roundg (leftN (ip t) (fun k => sp (A t k)) (deg t) seen')
                  case measure => omega
                  case rel => exact (HFIN.out true).out
                | false =>
                  by_cases hut : u = t
                  · have heq : (binOp .eql 42 (.pointer (some ⟨sp u, 0, none⟩)) (.pointer (some ⟨sp t, 0, none⟩))).run Try.prog W.drew = .ok (.bool true) W.drew := by rw [hut]; exact eql_same42 _ _
                    clear hut
                    go_wp2
                    go_region_held3 (fun W => W.cell? ⟨H + 3, 0, none⟩ = some (.slice (some ⟨gN, 0, none⟩) n n) ∧ W.cell? ⟨sp u, 1, none⟩ = some (.int .i64 (u : Nat)) ∧ W.cell? ⟨gN, u, none⟩ = some (.int .i32 (nm u : Nat))) (go_keep) (fail)
                    go_wp2
                    go_roundg (leftN (ip t) (fun k => sp (A t k)) (deg t) seen')
                    case measure => omega
                    case rel => exact (HFIN.out true).out
                  · have heq := hD.out.eql_other hu ht hut
                    go_wp2
                    go_region_held3 (fun W => W.cell? ⟨H + 3, 0, none⟩ = some (.slice (some ⟨gN, 0, none⟩) n n) ∧ W.cell? ⟨sp u, 1, none⟩ = some (.int .i64 (u : Nat)) ∧ W.cell? ⟨gN, u, none⟩ = some (.int .i32 (nm u : Nat))) (go_keep) (fail)
                    go_wp2
                    go_roundg (leftN (ip t) (fun k => sp (A t k)) (deg t) seen')
                    case measure => omega
                    case rel => exact (HFIN.out false).out
                -- B>
              · have hgi : ¬ (first : Int) ≤ (nm u : Int) := by omega
                have kWD : Hid (Kept noS w1 W.drew) := KD
                have RD : Hid (Res H n gN gB gA W.drew nm bv fa1 la1 cyc J) := HR2.out.kept KD.out (fun h => h) (fun h => h) (fun h => h) (fun h => h) (fun _ _ h => h)
                have q0 := RD.out.cell1
                have q1 := RD.out.cell2
                have q2 := RD.out.ar.first hu
                have q3 := RD.out.ar.last hu
                have q4 := RD.out.br.cell hu
                have q5 := hD.out.id u hu
                obtain ⟨mb, fb, lb, hsp1, hsp2, hsp3⟩ := RD.out.bs u hu
                obtain ⟨g1, c1, w3, g2, c2, w4, r1, r2, G4, kx3, kx4, hat4, hmb⟩ := GD.out.both (by have := KD.out.size; omega) (RD.out.av u hu) hsp1 hsp2 hn (fun g hg => (HR2.out.jj g (hsp3 g hg)).2) (by omega)
                generalize hWD : W.drew = W1 at *
                have HWD : Hid (W.drew = W1) := hWD
                clear hWD
                have hown : ∀ q, u11.ownBlock = some q → w1.heap.size ≤ q := fun q hq => (GD.out.own hq).1
                have S3 : Hid (w3.cell? ⟨H + 3, 1, none⟩ = some (.slice (some ⟨gB, 0, none⟩) n n) ∧ w3.cell? ⟨H + 3, 2, none⟩ = some (.slice (some ⟨gA, 0, none⟩) n n) ∧ w3.cell? ⟨gA, u * 2, none⟩ = some (.int .i32 (fa1 u)) ∧ w3.cell? ⟨gA, u * 2 + 1, none⟩ = some (.int .i32 (la1 u)) ∧ w3.cell? ⟨gB, u, none⟩ = some (bv u) ∧ w3.cell? ⟨sp u, 1, none⟩ = some (.int .i64 (u : Nat))) := by
                  have hsu : sp u < wF.heap.size := block_lt_of_cell (HF.out.id u hu)
                  refine ⟨kx3.cell q0 ?_, kx3.cell q1 ?_, kx3.cell q2 ?_, kx3.cell q3 ?_, kx3.cell q4 ?_, kx3.cell q5 ?_⟩ <;> (intro hh; have := hown _ hh; dsimp only at this; omega)
                have S4 : Hid (w4.cell? ⟨H + 3, 1, none⟩ = some (.slice (some ⟨gB, 0, none⟩) n n) ∧ w4.cell? ⟨H + 3, 2, none⟩ = some (.slice (some ⟨gA, 0, none⟩) n n) ∧ w4.cell? ⟨gA, u * 2, none⟩ = some (.int .i32 (fa1 u)) ∧ w4.cell? ⟨gA, u * 2 + 1, none⟩ = some (.int .i32 (la1 u)) ∧ w4.cell? ⟨gB, u, none⟩ = some (bv u) ∧ w4.cell? ⟨sp u, 1, none⟩ = some (.int .i64 (u : Nat))) := by
                  have hsu : sp u < wF.heap.size := block_lt_of_cell (HF.out.id u hu)
                  refine ⟨kx4.cell q0 ?_, kx4.cell q1 ?_, kx4.cell q2 ?_, kx4.cell q3 ?_, kx4.cell q4 ?_, kx4.cell q5 ?_⟩ <;> (intro hh; have := hown _ hh; dsimp only at this; omega)
                have HFIN : Hid (∃ (cn' : Nat) (bb : Bool) (seen : Array Nat), Value.bool bb3 = .bool bb ∧ leftN (ip t) (fun k => sp (A t k)) (deg t) seen ≤ leftN (ip t) (fun k => sp (A t k)) (deg t) seen' ∧ Hid (w4.heap[w2.heap.size]? = some (.mapIter (some (mp t)) (deg t) seen (deg t))) ∧ Hid (Got w4 w1.heap.size n (.slice (some ⟨g2, 0, none⟩) (cn3 + 1 + mb) c2) cn') ∧ cn' + 4097 * leftN (ip t) (fun k => sp (A t k)) (deg t) seen ≤ 4097 * (sumTo (fun k => deg (S k)) k2 + deg t) ∧ Hid ((Value.slice (some ⟨g2, 0, none⟩) (cn3 + 1 + mb) c2).ownBlock ≠ some w2.heap.size) ∧ w2.heap.size < w4.heap.size ∧ Hid (Kept noS w1 w4)) := by
                  have z4 := kx4.size
                  refine ⟨cn3 + 1 + mb, bb3, seen', rfl, Nat.le_refl _, ?_, G4, by omega, ?_, by omega, ?_⟩
                  · show w4.heap[w2.heap.size]? = _
                    rw [kx4.block _ (by omega) HNE.out]; exact HID.out
                  · intro hh
                    have e : g2 = w2.heap.size := by simpa [Value.ownBlock] using hh
                    rcases hat4 with h1 | h1
                    · exact HNE.out (by rw [← e]; exact h1)
                    · omega
                  · exact (show Kept noS w1 w4 from KD.out.trans kx4 (fun x hx => .inr (hown x hx)))
                have R1 : Hid _ := r1
                have R2 : Hid _ := r2
                have k3 : w2.heap.size < W1.heap.size := by omega
                clear r1 r2 G4 kx3 kx4 hat4 hsp1 hsp2 hsp3 hown
                generalize bv u = bvu at *
                generalize fa1 u = fau at *
                generalize la1 u = lau at *
                go_wp2
                go_region_held3 (fun W => W.cell? ⟨H + 3, 0, none⟩ = some (.slice (some ⟨gN, 0, none⟩) n n) ∧ W.cell? ⟨sp u, 1, none⟩ = some (.int .i64 (u : Nat)) ∧ W.cell? ⟨gN, u, none⟩ = some (.int .i32 (nm u : Nat))) (go_keep) (fail)
                rw [HWD.out]
                go_wp2
                go_region_held3 (fun W => W.cell? ⟨H + 3, 1, none⟩ = some (.slice (some ⟨gB, 0, none⟩) n n) ∧ W.cell? ⟨H + 3, 2, none⟩ = some (.slice (some ⟨gA, 0, none⟩) n n) ∧ W.cell? ⟨gA, u * 2, none⟩ = some (.int .i32 fau) ∧ W.cell? ⟨gA, u * 2 + 1, none⟩ = some (.int .i32 lau) ∧ W.cell? ⟨gB, u, none⟩ = some bvu ∧ W.cell? ⟨sp u, 1, none⟩ = some (.int .i64 (u : Nat))) (first | exact S3.out | exact S4.out | go_keep) (first | refine step_append_run rfl _ _ 80 80 rfl _ _ _ rfl rfl R1.out ?_ | refine step_append_run rfl _ _ 80 81 rfl _ _ _ rfl rfl R2.out ?_)
                go_wp2
                go_roundg (leftN (ip t) (fun k => sp (A t k)) (deg t) seen')
                case measure => omega
                case rel => exact HFIN.out
            -- C>
        · have hkm2 : k2 = m := by omega
          have hnl2 : ¬ (k2 : Int) < (m : Int) := by omega
          rw [hkm2] at hcn
          clear hkm2
          have HO2 : Hid (w1.rowIs (H + 8) 4 n (fun i => .bool (Om i))) := HO1
          generalize wr = w2 at *
          go_upto_if 122 with fail
          go_cut [11, 17] from 122 (fun x _ wc => ∃ (cn4 : Nat) (cyc' : Value) (J' : Nat → Prop), Hid (Got wc w1.heap.size n x cn4) ∧ cn4 ≤ 537001985 ∧ Hid (Res H n gN gB gA wc nm bv fa1 la1 cyc' J') ∧ Hid (∀ q, J q → J' q) ∧ Hid (∀ q, J' q → J q ∨ w1.heap.size ≤ q) ∧ Hid (∀ q, x.ownBlock = some q → ¬ J' q) ∧ Hid (Kept (fun b => b = H + 3) w1 wc))
          case first =>
            have hxo : Hid (∀ q, u11.ownBlock = some q → w1.heap.size ≤ q ∧ q < w2.heap.size) := fun q hq => HG.out.own hq
            have hz1 : H + 13 ≤ w1.heap.size := by omega
            cases bb with
            | false =>
              go_wp2
              go_meet
              case rel => exact ⟨cn, cyc, J, HG, by omega, HR2.out.kept HK2.out (fun h => h) (fun h => h) (fun h => h) (fun h => h) (fun _ _ h => h), fun _ h => h, fun _ h => .inl h, fun q hq hJ => by have := hxo.out q hq; have := (HR2.out.jj q hJ).2; omega, (show Kept (fun b => b = H + 3) w1 w2 from HK2.out.mono (fun x hx => hx.elim))⟩
            | true =>
              obtain ⟨lst, hlst⟩ : ∃ lst : Nat, lst + 1 = first + m := ⟨first + m - 1, by omega⟩
              have hl1 : (first : Int) + (m : Int) - 1 = (lst : Int) := by omega
              have HL1 : Hid ((first : Int) + (m : Int) - 1 = (lst : Int)) := hl1
              clear hl1
              go_upto_region 20 with fail
              rw [HL1.out]
              have k3 : Hid (Kept noS w2 (w2.alloc (Obj.cells #[Value.int IntKind.i32 (first : Nat), Value.int IntKind.i32 (lst : Nat)] 85))) := (show Kept noS w2 _ from (Kept.refl noS w2).alloc _)
              have c30 : (w2.alloc (Obj.cells #[Value.int IntKind.i32 (first : Nat), Value.int IntKind.i32 (lst : Nat)] 85)).cell? ⟨w2.heap.size, 0, none⟩ = some (.int .i32 (first : Nat)) := cell_of_row _ _ 0 _ _ (0, 0) (alloc_at _ _ _ rfl)
              have c31 : (w2.alloc (Obj.cells #[Value.int IntKind.i32 (first : Nat), Value.int IntKind.i32 (lst : Nat)] 85)).cell? ⟨w2.heap.size, 1, none⟩ = some (.int .i32 (lst : Nat)) := cell_of_row _ _ 1 _ _ (0, 0) (alloc_at _ _ _ rfl)
              have z3 : (w2.alloc (Obj.cells #[Value.int IntKind.i32 (first : Nat), Value.int IntKind.i32 (lst : Nat)] 85)).heap.size = w2.heap.size + 1 := by simp
              generalize w2.alloc (Obj.cells #[Value.int IntKind.i32 (first : Nat), Value.int IntKind.i32 (lst : Nat)] 85) = w3 at *
              obtain ⟨q17, hq17⟩ : ∃ q, q = w2.heap.size := ⟨_, rfl⟩
              have z3x : w3.heap.size ≤ w2.heap.size + 1 := by omega
              have z3y : w2.heap.size + 1 ≤ w3.heap.size := by omega
              clear z3
              rw [← hq17] at c30 c31 ⊢
              have hq1 : q17 ≤ w2.heap.size := by omega
              have hq2 : w2.heap.size ≤ q17 := by omega
              clear hq17
              have k3a : Kept noS w3 (w3.alloc (.cells #[.int .i32 (first : Nat), .int .i32 (lst : Nat)] 85)) := (Kept.refl noS w3).alloc _
              have z3a : (w3.alloc (.cells #[.int .i32 (first : Nat), .int .i32 (lst : Nat)] 85)).heap.size = w3.heap.size + 1 := by simp
              have hval : (0 : Int) ≤ (first : Nat) ∧ ((first : Nat) : Int) ≤ (lst : Nat) ∧ ((lst : Nat) : Int) < (n : Nat) := by omega
              have d0 : (w3.alloc (.cells #[.int .i32 (first : Nat), .int .i32 (lst : Nat)] 85)).cell? ⟨w3.heap.size, 0, none⟩ = some (.int .i32 (first : Nat)) := cell_of_row _ _ 0 _ _ (0, 0) (alloc_at _ _ _ rfl)
              have d1 : (w3.alloc (.cells #[.int .i32 (first : Nat), .int .i32 (lst : Nat)] 85)).cell? ⟨w3.heap.size, 1, none⟩ = some (.int .i32 (lst : Nat)) := cell_of_row _ _ 1 _ _ (0, 0) (alloc_at _ _ _ rfl)
              obtain ⟨gx, cx, w4, hr4, hG4, hk4, hat4⟩ := ((HG.out.kept k3.out (fun _ _ h => h)).kept k3a (fun _ _ h => h)).one (by omega) d0 d1 hval (by omega)
              have k14 : Hid (Kept noS w1 w4) := (show Kept noS w1 w4 from ((HK2.out.trans k3.out (fun x hx => hx.elim)).trans k3a (fun x hx => hx.elim)).trans hk4 (fun x hx => .inr (hxo.out x hx).1))
              have z4 := hk4.size
              have HR4 : Hid _ := hr4
              have G4 : Hid _ := hG4
              have b0 : w4.cell? ⟨q17, 0, none⟩ = some (.int .i32 (first : Nat)) := hk4.cell (k3a.cell c30 (fun h => h)) (fun h => by have := (hxo.out _ h).2; dsimp only at this; omega)
              have b1 : w4.cell? ⟨q17, 1, none⟩ = some (.int .i32 (lst : Nat)) := hk4.cell (k3a.cell c31 (fun h => h)) (fun h => by have := (hxo.out _ h).2; dsimp only at this; omega)
              have R4 : Hid (Res H n gN gB gA w4 nm bv fa1 la1 cyc J) := HR2.out.kept k14.out (fun h => h) (fun h => h) (fun h => h) (fun h => h) (fun _ _ h => h)
              have b3 := R4.out.cell3
              have b4 := R4.out.rr.frozen 3
              have z4x : w3.heap.size + 1 ≤ w4.heap.size := by omega
              clear hr4 hG4 hk4 k3a d0 d1 z3a z4 hat4
              go_wp2_with (at_builtin; refine wpList_append_run rfl _ _ 80 80 rfl _ _ _ rfl rfl HR4.out ?_)
              obtain ⟨nc, fc, lc, hc1, hc2, hc3⟩ := R4.out.cs
              have k4a : Kept noS w4 (w4.alloc (.cells #[.int .i32 (first : Nat), .int .i32 (lst : Nat)] 85)).drew := ((Kept.refl noS w4).alloc _).trans (Kept.drewN noS _ 1) (fun x hx => hx.elim)
              have d0 : (w4.alloc (.cells #[.int .i32 (first : Nat), .int .i32 (lst : Nat)] 85)).drew.cell? ⟨w4.heap.size, 0, none⟩ = some (.int .i32 (first : Nat)) := cell_of_row _ _ 0 _ _ (0, 0) (alloc_at _ _ _ rfl)
              have d1 : (w4.alloc (.cells #[.int .i32 (first : Nat), .int .i32 (lst : Nat)] 85)).drew.cell? ⟨w4.heap.size, 1, none⟩ = some (.int .i32 (lst : Nat)) := cell_of_row _ _ 1 _ _ (0, 0) (alloc_at _ _ _ rfl)
              have hun := union_any n nc 1 cyc (.slice (some ⟨w4.heap.size, 0, none⟩) 1 1) fc lc (fun _ => (first : Nat)) (fun _ => (lst : Nat)) (w4.alloc (.cells #[.int .i32 (first : Nat), .int .i32 (lst : Nat)] 85)).drew hn (hc1.kept k4a (fun _ _ h => h)) (.inr ⟨w4.heap.size, 1, rfl, Nat.le_refl _, fun k hk => by
                obtain rfl : k = 0 := by omega
                exact ⟨d0, d1⟩⟩) hc2 ⟨by omega, fun j _ => hval⟩ (by omega)
              have b0a : (w4.alloc (.cells #[.int .i32 (first : Nat), .int .i32 (lst : Nat)] 85)).drew.cell? ⟨q17, 0, none⟩ = some (.int .i32 (first : Nat)) := k4a.cell b0 (fun h => h)
              have b1a : (w4.alloc (.cells #[.int .i32 (first : Nat), .int .i32 (lst : Nat)] 85)).drew.cell? ⟨q17, 1, none⟩ = some (.int .i32 (lst : Nat)) := k4a.cell b1 (fun h => h)
              have b3a : (w4.alloc (.cells #[.int .i32 (first : Nat), .int .i32 (lst : Nat)] 85)).drew.cell? ⟨H + 3, 3, none⟩ = some cyc := k4a.cell b3 (fun h => h)
              have R4a : Hid (Res H n gN gB gA (w4.alloc (.cells #[.int .i32 (first : Nat), .int .i32 (lst : Nat)] 85)).drew nm bv fa1 la1 cyc J) := R4.out.kept k4a (fun h => h) (fun h => h) (fun h => h) (fun h => h) (fun _ _ h => h)
              have z4a : (w4.alloc (.cells #[.int .i32 (first : Nat), .int .i32 (lst : Nat)] 85)).drew.heap.size = w4.heap.size + 1 := by simp
              have HZ4 : Hid ((w4.alloc (.cells #[.int .i32 (first : Nat), .int .i32 (lst : Nat)] 85)).drew.heap.size = w4.heap.size + 1) := z4a
              have K4A : Hid (Kept noS w4 (w4.alloc (.cells #[.int .i32 (first : Nat), .int .i32 (lst : Nat)] 85)).drew) := k4a
              have hq3 : ¬ (H + 3 = q17) := by omega
              have hz14 : Hid (w1.heap.size ≤ w4.heap.size) := k14.out.size
              clear hc1 hc2 hc3 d0 d1 k4a z4a
              go_region_with (first | (go_at_call 25; refine hun.mono ?_; rintro _ w5 ⟨⟨v, mv, fv, lv, rfl, hs5, hv5, hor5⟩, k5⟩; obtain ⟨a5, c5, e5, _⟩ := hs5.len; subst e5; have f5 := (R4a.out.kept k5 (fun h => h) (fun h => h) (fun h => h) (fun h => h) (fun _ _ h => h)).rr.frozen 3; have b5 := (R4a.out.kept k5 (fun h => h) (fun h => h) (fun h => h) (fun h => h) (fun _ _ h => h)).cell3))
              all_goals (
                have hU : UnionTo n (w4.heap.size + 1) cyc (.slice (some ⟨w4.heap.size, 0, none⟩) 1 1) w5 (.returned (.slice a5 mv c5)) := by
                  have := HZ4.out
                  exact ⟨_, mv, fv, lv, rfl, hs5, hv5, by rw [this] at hor5; exact hor5⟩
                have hFin := cyc_done HP.out HR2.out hz1 G4.out k14.out (K4A.out.trans k5 (fun x hx => hx.elim)) (by have := HZ4.out; have := k5.size; omega) hU
                have HFIN : Hid _ := hFin
                clear hFin hU hs5 hv5 hor5
                go_wp2
                go_meet
                case rel =>
                  obtain ⟨cyc', J', f1, f2, f3, f4, f5, f6⟩ := HFIN.out
                  exact ⟨cn + 1, cyc', J', f6, by omega, f1, f2, f3, f4, f5⟩)
          case rest =>
            obtain ⟨cn4, cyc', J', HG4, hcn4, HR4, HJ1, HJ2, HJ3, HK4⟩ := hcut
            have h26 := spansOf_got HG4.out hn (by omega)
            clear HR2 HG
            -- <E
            go_wp2_with (go_at_call 26; refine h26.mono ?_; rintro _ w5 ⟨⟨v, mv, fv, lv, rfl, hs5, hv5, ho5⟩, k5⟩)
            obtain ⟨av, cv, hvv, _⟩ := hs5.len
            subst hvv
            have hxo : Hid (∀ q, u11.ownBlock = some q → w1.heap.size ≤ q ∧ q < wc.heap.size) := fun q hq => HG4.out.own hq
            have z4 := HK4.out.size
            have z5 := k5.size
            have HK5 : Hid (Kept (fun b => u11.ownBlock = some b) wc w5) := k5
            have R5 : Hid (Res H n gN gB gA w5 nm bv fa1 la1 cyc' (fun q => J' q ∨ (Value.slice av mv cv).ownBlock = some q)) := by
              have r5 := HR4.out.kept k5 (fun h => by have := hxo.out _ h; omega) (fun h => by have := hxo.out _ h; omega) (fun h => by have := hxo.out _ h; omega) (fun h => by have := hxo.out _ h; omega) (fun q hq h => HJ3.out q h hq)
              exact r5.more (fun _ h => .inl h) (fun q hq => by
                rcases hq with h | h
                · exact r5.jj q h
                · have := hxo.out q (ho5 q h); omega)
            have OK5 : Hid (SpansOk w5 n (fun q => J' q ∨ (Value.slice av mv cv).ownBlock = some q) (.slice av mv cv)) := ⟨mv, fv, lv, hs5, hv5, fun g hg => .inr hg⟩
            have HO5 : Hid (∀ g, (Value.slice av mv cv).ownBlock = some g → w1.heap.size ≤ g) := fun g hg => (hxo.out g (ho5 g hg)).1
            clear h26 hs5 hv5 ho5 k5
            go_wp2
            go_loopg [149] m (fun gk z wq => ∃ k : Nat, z = .int .i64 k ∧ k ≤ m ∧ m - k ≤ gk ∧ Hid (Res H n gN gB gA wq nm (setTo bv S (fun _ => Value.slice av mv cv) k) fa1 la1 cyc' (fun q => J' q ∨ (Value.slice av mv cv).ownBlock = some q)) ∧ Hid (Kept (fun b => b = gB) w5 wq))
            case atStart => exact ⟨0, rfl, Nat.zero_le _, Nat.le_refl _, R5, Kept.refl _ _⟩
            case round =>
              obtain ⟨k6, rfl, hk6, hgk6, HR6, HK6⟩ := hrel
              have z6 := HK6.out.size
              have HB6 : Hid (Below wF.heap.size wF wr) := (show Below wF.heap.size wF wr from (HB1.out.trans ((HK4.out.below HB1.out.size (fun x hx => by omega)).trans ((HK5.out.below (by have := HB1.out.size; omega) (fun x hx => by have := hxo.out x hx; have := HB1.out.size; omega)).trans (HK6.out.below (by have := HB1.out.size; omega) (fun x hx => by omega))))))
              by_cases hlt6 : k6 < m
              · have ht := HS.out k6 hlt6
                have e1 := HK6.out.cell (HK5.out.cell (HK4.out.cell (HK1.out.cell (HSET.out k6 hlt6) (by show ¬ (pb = gN ∨ pb = gA ∨ pb = H + 8); omega)) (by show ¬ (pb = H + 3); omega)) (fun h => by have h1 := (hxo.out _ h).1; have h2 := block_lt_of_cell (HSET.out k6 hlt6); dsimp only at h1 h2; omega)) (by show ¬ (pb = gB); omega)
                have e2 := (HF.out.below HB6.out).id (S k6) ht
                have hspl : sp (S k6) < wF.heap.size := block_lt_of_cell (HF.out.id (S k6) ht)
                have e3 := HR6.out.cell1
                have e5 := HR6.out.br.cell ht
                have z5 := HR6.out.br.frozen (S k6)
                have hst := HR6.out.stored HP.out (v := .slice av mv cv) (OK5.out.kept HK6.out (fun q hq h => by have := R5.out.jj q hq; omega) (fun _ h => h)) (S k6)
                have HST : Hid _ := hst
                clear hst
                generalize hT : S k6 = t at *
                have n1 : (0 : Int) ≤ (t : Int) := by omega
                have n2 : (t : Int) < (n : Int) := by omega
                have n3 : ¬ (gB = sp t) := by omega
                have n6 : ¬ (gB = H + 3) := by omega
                go_wp2
                go_region_held3 (fun W => W.cell? ⟨H + 3, 1, none⟩ = some (.slice (some ⟨gB, 0, none⟩) n n) ∧ W.cell? ⟨sp t, 1, none⟩ = some (.int .i64 (t : Nat))) (go_keep) (fail)
                go_wp2
                go_roundg (m - (k6 + 1))
                case measure => omega
                case rel =>
                  obtain ⟨hn1, hn2⟩ := HST.out
                  rw [← hT] at hn1 hn2 ⊢
                  exact ⟨k6 + 1, by go_num, by omega, Nat.le_refl _, hn1, HK6.out.trans hn2 (fun x hx => .inl hx)⟩
              · have hkm6 : k6 = m := by omega
                have hnl6 : ¬ (k6 : Int) < (m : Int) := by omega
                rw [hkm6] at HR6
                clear hkm6
                go_wp2
                go_end0
                refine ⟨rfl, ⟨.slice av mv cv, fa1, la1, cyc', _, HR6.out, ?_, fun q hq => .inl (HJ1.out q hq), fun q hq => ?_⟩, ?_⟩
                · exact HK6.out.row (HK5.out.row (HK4.out.row HO2.out (by omega)) (fun h => by have := hxo.out _ h; omega)) (by omega)
                · rcases hq with h | h
                  · rcases HJ2.out q h with h1 | h1
                    · exact .inl h1
                    · exact .inr (by omega)
                  · have := HO5.out q h
                    exact .inr (by omega)
                · refine (((show Kept (Sf H gN gB gA) w w1 from HK1.out.mono (fun x hx => ?_)).trans HK4.out (fun x hx => .inl ?_)).trans HK5.out (fun x hx => .inr ?_)).trans HK6.out (fun x hx => .inl ?_)
                  · unfold Sf; omega
                  · unfold Sf; omega
                  · have := hxo.out x hx; omega
                  · unfold Sf; omega
            -- E>
end Go.Proofs.Qxb6613158a
