/-
  THE MEMORY OF newImportReach, and THE WALK of 'find' (17).
-/
import Derived.Test.Qxb6613158aImports
import Derived.Test.Qxb6613158aTarjan
import Derived.Deep.AppendLies
namespace Go.Proofs.Qxb6613158a
open Go.RowKit Tj
set_option linter.unusedSimpArgs false
set_option linter.unusedVariables false

/-- What is still to be looked at from a step. -/
def NextAt (w : World) (I : Nat → Prop) (sp : Nat → Nat) (v : Value) (L : List Nat) : Prop :=
  (v = .slice none 0 0 ∧ L = []) ∨ ∃ q o c, v = .slice (some ⟨q, o, none⟩) L.length c ∧ L.length ≤ c ∧ I q ∧ ∀ k, k < L.length → w.cell? ⟨q, o + k, none⟩ = some (.pointer (some ⟨sp (L.getD k 0), 0, none⟩))

theorem NextAt.kept {w w' : World} {I I' : Nat → Prop} {sp : Nat → Nat} {v : Value} {L : List Nat} (h : NextAt w I sp v L) (hI : ∀ q, I q → I' q) (hk : ∀ q, I q → w'.heap[q]? = w.heap[q]?) : NextAt w' I' sp v L := by
  rcases h with h | ⟨q, o, c, h1, h2, h3, h4⟩
  · exact .inl h
  · exact .inr ⟨q, o, c, h1, h2, hI q h3, fun k hk2 => (World.cell?_of_block (w := w) (hk q h3)).trans (h4 k hk2)⟩

/-- THE MEMORY. -/
structure Mem (H n : Nat) (sp : Nat → Nat) (w : World) (s : St) (O : Nat → Bool) (pval sval : Value) (nv : Nat → Value) (I : Nat → Prop) : Prop where
  fv : w.cell? ⟨H + 5, 0, none⟩ = some (.slice (some ⟨H + 4, 0, none⟩) n n)
  fr : w.rowIs (H + 4) 21 n (fun i => .int .i32 (s.f i : Nat))
  lv : w.cell? ⟨H + 7, 0, none⟩ = some (.slice (some ⟨H + 6, 0, none⟩) n n)
  lr : w.rowIs (H + 6) 21 n (fun i => .int .i32 (s.low i : Nat))
  ov : w.cell? ⟨H + 9, 0, none⟩ = some (.slice (some ⟨H + 8, 0, none⟩) n n)
  or : w.rowIs (H + 8) 4 n (fun i => .bool (O i))
  cr : w.rowIs (H + 12) 21 1 (fun _ => .int .i32 (s.c : Nat))
  pr : w.rowIs (H + 10) 41 1 (fun _ => pval)
  po : w.ownsRow (H + 13) 42 1 pval s.m ((List.range s.m).map fun i => .pointer (some ⟨sp (s.op i), 0, none⟩))
  sr : w.rowIs (H + 11) 96 1 (fun _ => sval)
  so : w.ownsRow (H + 13) 99 2 sval s.d ((List.range s.d).flatMap fun i => [.pointer (some ⟨sp (s.pa i), 0, none⟩), nv i])
  nx : ∀ i, i < s.d → NextAt w I sp (nv i) (s.nx i)
  sep : ∀ b, pval.ownBlock = some b → sval.ownBlock ≠ some b
  imm : ∀ q, I q → H + 13 ≤ q ∧ q < w.heap.size ∧ pval.ownBlock ≠ some q ∧ sval.ownBlock ≠ some q

/-- What 'find' may write. -/
def Sx (H : Nat) (pval sval : Value) : Nat → Prop := fun b => b = H + 4 ∨ b = H + 6 ∨ b = H + 8 ∨ b = H + 10 ∨ b = H + 11 ∨ b = H + 12 ∨ pval.ownBlock = some b ∨ sval.ownBlock = some b

theorem info42 : (Try.prog.info? 42).map (fun i => (i.zero, i.size, i.bytes)) = some (some (.pointer none), 1, 8) := by kernel_rfl
theorem info99 : (Try.prog.info? 99).map (fun i => (i.zero, i.size, i.bytes)) = some (some (.agg #[.pointer none, .slice none 0 0]), 2, 32) := by kernel_rfl

variable {w W : World} {n H : Nat} {sp fp mp : Nat → Nat} {N : Nat → ByteArray} {deg : Nat → Nat} {ip A : Nat → Nat → Nat} {s : St} {O : Nat → Bool} {pval sval : Value} {nv : Nat → Value} {I : Nat → Prop}

theorem Mem.sx_ge (h : Mem H n sp w s O pval sval nv I) {x : Nat} (hx : Sx H pval sval x) : H ≤ x := by
  unfold Sx at hx
  rcases hx with h1 | h1 | h1 | h1 | h1 | h1 | h1 | h1
  · omega
  · omega
  · omega
  · omega
  · omega
  · omega
  · have := own_ge h.po x h1; omega
  · have := own_ge h.so x h1; omega

theorem rowIs_upd_nat {w : World} {g n t c : Nat} {f : Nat → Nat} (h : w.rowIs g 21 n (fun i => .int .i32 (f i : Nat))) : (w.setCell ⟨g, t, none⟩ (.int .i32 ((c : Int) + 1))).rowIs g 21 n (fun i => .int .i32 (upd f t (c + 1) i : Nat)) :=
  (h.set t _).congr (fun j hj => by
    by_cases e : j = t
    · simp [e, upd_same]
    · simp [e, upd_other _ _ e])

theorem rowIs_upd_bool {w : World} {g n t : Nat} {b : Bool} {f : Nat → Bool} (h : w.rowIs g 4 n (fun i => .bool (f i))) : (w.setCell ⟨g, t, none⟩ (.bool b)).rowIs g 4 n (fun i => .bool (upd f t b i)) :=
  (h.set t _).congr (fun j hj => by
    by_cases e : j = t
    · simp [e, upd_same]
    · simp [e, upd_other _ _ e])

theorem own_one {w : World} {B n sz : Nat} {e : TypeId} {v : Value} {xs : List Value} (h : w.ownsRow B e sz v n xs) : v.oneCell' = true := by
  rcases h.2 with ⟨h1, _⟩ | ⟨g, cap, cur, hv, _⟩
  · rw [h1]; rfl
  · rw [hv]; rfl

theorem own_cap {w : World} {B n sz : Nat} {e : TypeId} {v : Value} {xs : List Value} (h : w.ownsRow B e sz v n xs) : (v = .slice none 0 0 ∧ n = 0) ∨ ∃ g cap, v = .slice (some ⟨g, 0, none⟩) n cap ∧ n ≤ cap ∧ B ≤ g ∧ g < w.heap.size := by
  rcases h.2 with h1 | ⟨g, cap, cur, hv, hb, hh, hn, _⟩
  · exact .inl h1
  · exact .inr ⟨g, cap, hv, hn, hb, heap_lt hh⟩

/-- ALL THAT 'find' HAS WRITTEN, PUT TOGETHER. -/
theorem find_done {w2 w3 w4 w5 w6 w7 w8 : World} {t g cap g7 cap7 dt : Nat} {v8 : Value} {At Q : Nat → Nat} (hM : Mem H n sp w s O pval sval nv I)
    (kA : Kept (fun b => b = H + 12 ∨ b = H + 4 ∨ b = H + 6 ∨ b = H + 8) w w2)
    (fr2 : w2.rowIs (H + 4) 21 n (fun i => .int .i32 (upd s.f t (s.c + 1) i : Nat))) (lr2 : w2.rowIs (H + 6) 21 n (fun i => .int .i32 (upd s.low t (s.c + 1) i : Nat)))
    (or2 : w2.rowIs (H + 8) 4 n (fun i => .bool (upd O t true i))) (cr2 : w2.rowIs (H + 12) 21 1 (fun _ => .int .i32 ((s.c : Int) + 1)))
    (kB : Kept (fun b => pval.ownBlock = some b) w2 w3)
    (own3 : w3.ownsRow (H + 13) 42 1 (.slice (some ⟨g, 0, none⟩) (s.m + 1) cap) (s.m + 1) (((List.range s.m).map fun i => .pointer (some ⟨sp (s.op i), 0, none⟩)) ++ [.pointer (some ⟨sp t, 0, none⟩)]))
    (hat3 : pval.ownBlock = some g ∨ g = w2.heap.size + 1) (hlt3 : g < w3.heap.size)
    (kC : Kept (fun b => b = H + 10) w3 w4) (pr4 : w4.rowIs (H + 10) 41 1 (fun _ => .slice (some ⟨g, 0, none⟩) (s.m + 1) cap))
    (kD : Kept noS w4 w5) (kE : Kept noS w5 w6) (own6 : w6.ownsRow w5.heap.size 42 1 v8 dt ((List.range dt).map fun j => Value.pointer (some ⟨sp (At (Q j)), 0, none⟩)))
    (kF : Kept (fun b => sval.ownBlock = some b) w6 w7)
    (own7 : w7.ownsRow (H + 13) 99 2 (.slice (some ⟨g7, 0, none⟩) (s.d + 1) cap7) (s.d + 1) (((List.range s.d).flatMap fun i => [.pointer (some ⟨sp (s.pa i), 0, none⟩), nv i]) ++ [.pointer (some ⟨sp t, 0, none⟩), v8]))
    (hat7 : sval.ownBlock = some g7 ∨ g7 = w6.heap.size + 1) (hlt7 : g7 < w7.heap.size)
    (kG : Kept (fun b => b = H + 11) w7 w8) (sr8 : w8.rowIs (H + 11) 96 1 (fun _ => .slice (some ⟨g7, 0, none⟩) (s.d + 1) cap7))
    (hin : ∀ k, k < dt → Q k < dt) (hon : ∀ j, j < dt → ∃ k, k < dt ∧ Q k = j) :
    (∃ pval' sval' nv' I' L, Mem H n sp w8 (s.find t s.nx L) (upd O t true) pval' sval' nv' I' ∧ (∀ q, I q → I' q) ∧ (∀ u, u ∈ L ↔ ∃ k, k < dt ∧ At k = u) ∧ L.length = dt) ∧ Kept (Sx H pval sval) w w8 := by
  have pge := fun q hq => own_ge hM.po q hq
  have sge := fun q hq => own_ge hM.so q hq
  have plt : ∀ q, pval.ownBlock = some q → q < w.heap.size := fun q hq => by
    rcases own_cap hM.po with ⟨h1, _⟩ | ⟨g', c', h1, _, _, h2⟩
    · rw [h1] at hq; cases hq
    · rw [h1] at hq
      have : g' = q := by simpa [Value.ownBlock] using hq
      omega
  have slt : ∀ q, sval.ownBlock = some q → q < w.heap.size := fun q hq => by
    rcases own_cap hM.so with ⟨h1, _⟩ | ⟨g', c', h1, _, _, h2⟩
    · rw [h1] at hq; cases hq
    · rw [h1] at hq
      have : g' = q := by simpa [Value.ownBlock] using hq
      omega
  have z2 := kA.size
  have z3 := kB.size
  have z4 := kC.size
  have z5 := kD.size
  have z6 := kE.size
  have z7 := kF.size
  have z8 := kG.size
  have hz2 : H + 13 ≤ w2.heap.size := by have := cr2.lt; omega
  have g3 : H + 13 ≤ g := own_ge own3 g rfl
  have gne : ∀ q, sval.ownBlock = some q → g ≠ q := fun q hq e => by
    rcases hat3 with h | h
    · exact hM.sep g h (e ▸ hq)
    · have := slt q hq; omega
  -- from w2 to the end: one frame
  have kZ : Kept (fun b => pval.ownBlock = some b ∨ b = H + 10 ∨ sval.ownBlock = some b ∨ b = H + 11) w2 w8 := by
    have h1 := ((((kB.mono (T := fun b => pval.ownBlock = some b ∨ b = H + 10 ∨ sval.ownBlock = some b ∨ b = H + 11) (fun x hx => .inl hx)).trans kC (fun x hx => .inl (.inr (.inl hx)))).trans kD (fun x hx => hx.elim)).trans kE (fun x hx => hx.elim))
    exact (h1.trans kF (fun x hx => .inl (.inr (.inr (.inl hx))))).trans kG (fun x hx => .inl (.inr (.inr (.inr hx))))
  have kAll : Kept (Sx H pval sval) w w8 := (kA.mono (T := Sx H pval sval) (fun x hx => by unfold Sx; omega)).trans kZ (fun x hx => .inl (by
    unfold Sx
    rcases hx with h | h | h | h
    · simp [h]
    · simp [h]
    · simp [h]
    · simp [h]))
  have low : ∀ {b : Nat}, b < H + 10 ∨ b = H + 12 → ¬ (pval.ownBlock = some b ∨ b = H + 10 ∨ sval.ownBlock = some b ∨ b = H + 11) := fun {b} hb h => by
    rcases h with h | h | h | h
    · have := pge b h; omega
    · omega
    · have := sge b h; omega
    · omega
  have imm8 : ∀ q, I q → w8.heap[q]? = w.heap[q]? := fun q hq => by
    obtain ⟨h1, h2, h3, h4⟩ := hM.imm q hq
    exact kAll.block q h2 (by unfold Sx; rintro (h | h | h | h | h | h | h | h) <;> first | omega | exact h3 h | exact h4 h)
  refine ⟨⟨.slice (some ⟨g, 0, none⟩) (s.m + 1) cap, .slice (some ⟨g7, 0, none⟩) (s.d + 1) cap7, upd nv s.d v8, fun q => I q ∨ v8.ownBlock = some q, (List.range dt).map (fun j => At (Q j)), ?_, fun q hq => .inl hq, fun u => ?_, by simp⟩, kAll⟩
  · refine ⟨?_, ?_, ?_, ?_, ?_, ?_, ?_, ?_, ?_, ?_, ?_, ?_, ?_, ?_⟩
    · exact kZ.cell (kA.cell hM.fv (by simp)) (low (by simp))
    · exact kZ.row fr2 (low (by simp))
    · exact kZ.cell (kA.cell hM.lv (by simp)) (low (by simp))
    · exact kZ.row lr2 (low (by simp))
    · exact kZ.cell (kA.cell hM.ov (by simp)) (low (by simp))
    · exact kZ.row or2 (low (by simp))
    · exact (kZ.row cr2 (low (by simp))).congr (fun j hj => by simp [St.find])
    · exact kG.row (kF.row (kE.row (kD.row pr4 (fun h => h)) (fun h => h)) (fun h => by have := sge _ h; omega)) (by simp)
    · have h1 := kG.owns (kF.owns (kE.owns (kD.owns (kC.owns own3 (fun q hq => by simp [Value.ownBlock] at hq; omega)) (fun q _ h => h)) (fun q _ h => h)) (fun q hq h => gne q h (by simpa [Value.ownBlock] using hq))) (fun q hq => by simp [Value.ownBlock] at hq; omega)
      have e : ((List.range (s.m + 1)).map fun i => Value.pointer (some ⟨sp ((s.find t s.nx ((List.range dt).map fun j => At (Q j))).op i), 0, none⟩)) = ((List.range s.m).map fun i => Value.pointer (some ⟨sp (s.op i), 0, none⟩)) ++ [Value.pointer (some ⟨sp t, 0, none⟩)] := by
        rw [List.range_succ, List.map_append]
        congr 1
        · apply List.map_congr_left
          intro i hi
          have hi' : i < s.m := by simpa using hi
          show Value.pointer (some ⟨sp (upd s.op s.m t i), 0, none⟩) = _
          rw [upd_other _ _ (by omega)]
        · show [Value.pointer (some ⟨sp (upd s.op s.m t s.m), 0, none⟩)] = _
          rw [upd_same]
      show w8.ownsRow (H + 13) 42 1 _ (s.m + 1) _
      rw [show (s.find t s.nx ((List.range dt).map fun j => At (Q j))).m = s.m + 1 from rfl, e]
      exact h1
    · exact sr8
    · have h1 := kG.owns own7 (fun q hq => by have := own_ge own7 q hq; omega)
      have e : ((List.range (s.d + 1)).flatMap fun i => [Value.pointer (some ⟨sp ((s.find t s.nx ((List.range dt).map fun j => At (Q j))).pa i), 0, none⟩), upd nv s.d v8 i]) = ((List.range s.d).flatMap fun i => [Value.pointer (some ⟨sp (s.pa i), 0, none⟩), nv i]) ++ [Value.pointer (some ⟨sp t, 0, none⟩), v8] := by
        rw [List.range_succ, List.flatMap_append]
        congr 1
        · rw [List.flatMap_def, List.flatMap_def]
          congr 1
          apply List.map_congr_left
          intro i hi
          have hi' : i < s.d := by simpa using hi
          show [Value.pointer (some ⟨sp (upd s.pa s.d t i), 0, none⟩), upd nv s.d v8 i] = _
          rw [upd_other _ _ (by omega), upd_other _ _ (by omega)]
        · show [Value.pointer (some ⟨sp (upd s.pa s.d t s.d), 0, none⟩), upd nv s.d v8 s.d] ++ [] = _
          rw [upd_same, upd_same, List.append_nil]
      show w8.ownsRow (H + 13) 99 2 _ (s.d + 1) _
      rw [show (s.find t s.nx ((List.range dt).map fun j => At (Q j))).d = s.d + 1 from rfl, e]
      exact h1
    · intro i hi
      have hi' : i < s.d + 1 := hi
      show NextAt w8 _ sp (upd nv s.d v8 i) (upd s.nx s.d ((List.range dt).map fun j => At (Q j)) i)
      by_cases e : i = s.d
      · rw [e, upd_same, upd_same]
        rcases own_cap own6 with ⟨h1, h2⟩ | ⟨q, c, h1, h2, h3, h4⟩
        · left
          exact ⟨h1, by rw [h2]; rfl⟩
        · right
          refine ⟨q, 0, c, by rw [h1]; simp, by simpa using h2, .inr (by rw [h1]; rfl), fun k hk => ?_⟩
          have hk' : k < dt := by simpa using hk
          have h5 : w6.cell? ⟨q, k, none⟩ = some (.pointer (some ⟨sp (At (Q k)), 0, none⟩)) := by
            have := own6.cells (g := q) (by rw [h1]; rfl) k (.pointer (some ⟨sp (At (Q k)), 0, none⟩)) (by simp [hk'])
            rwa [addr_add, Nat.zero_add] at this
          rw [Nat.zero_add, kG.cell (kF.cell h5 (fun h => by have := slt _ h; simp at this; omega)) (by simp; omega)]
          simp [hk']
      · rw [upd_other _ _ e, upd_other _ _ e]
        exact (hM.nx i (by omega)).kept (fun q hq => .inl hq) imm8
    · intro b hb hb2
      have e1 : g = b := by simpa [Value.ownBlock] using hb
      have e2 : g7 = b := by simpa [Value.ownBlock] using hb2
      rcases hat7 with h | h
      · exact gne g7 h (by omega)
      · omega
    · intro q hq
      rcases hq with hq | hq
      · obtain ⟨h1, h2, h3, h4⟩ := hM.imm q hq
        refine ⟨h1, by omega, fun h => ?_, fun h => ?_⟩
        · have e : g = q := by simpa [Value.ownBlock] using h
          rcases hat3 with h5 | h5
          · exact h3 (e ▸ h5)
          · omega
        · have e : g7 = q := by simpa [Value.ownBlock] using h
          rcases hat7 with h5 | h5
          · exact h4 (e ▸ h5)
          · omega
      · have h1 := own_ge own6 q hq
        have h2 : q < w6.heap.size := by
          rcases own_cap own6 with ⟨h3, _⟩ | ⟨g', c', h3, _, _, h4⟩
          · rw [h3] at hq; cases hq
          · rw [h3] at hq
            have : g' = q := by simpa [Value.ownBlock] using hq
            omega
        refine ⟨by omega, by omega, fun h => ?_, fun h => ?_⟩
        · have e : g = q := by simpa [Value.ownBlock] using h
          omega
        · have e : g7 = q := by simpa [Value.ownBlock] using h
          rcases hat7 with h5 | h5
          · have := slt g7 h5; omega
          · omega
  · constructor
    · intro hu
      obtain ⟨j, hj, e⟩ := List.mem_map.1 hu
      exact ⟨Q j, hin j (by simpa using hj), e⟩
    · rintro ⟨k, hk, e⟩
      obtain ⟨j, hj, e2⟩ := hon k hk
      exact List.mem_map.2 ⟨j, by simpa using hj, by rw [e2]; exact e⟩

set_option maxHeartbeats 4000000 in
set_option maxRecDepth 100000 in
theorem find_any (wF : World) (hF : Files wF n sp fp mp N deg ip A) (hB : Below wF.heap.size wF w) (hH : wF.heap.size ≤ H) (hM : Mem H n sp w s O pval sval nv I) (t : Nat) (ht : t < n) (hn : n ≤ 4096) (hc : s.c < n) (hm : s.m < n) (hd : s.d < n) (hdeg : deg t ≤ 1048576) :
    Calls Try.prog 17 #[.pointer (some ⟨sp t, 0, none⟩), .pointer (some ⟨H + 12, 0, none⟩), .pointer (some ⟨H + 5, 0, none⟩), .pointer (some ⟨H + 7, 0, none⟩), .pointer (some ⟨H + 9, 0, none⟩), .pointer (some ⟨H + 10, 0, none⟩), .pointer (some ⟨H + 11, 0, none⟩)] w fun e w' => e = .returned (.tuple #[]) ∧
      (∃ pval' sval' nv' I' L, Mem H n sp w' (s.find t s.nx L) (upd O t true) pval' sval' nv' I' ∧ (∀ q, I q → I' q) ∧ (∀ u, u ∈ L ↔ ∃ k, k < deg t ∧ A t k = u) ∧ L.length = deg t) ∧ Kept (Sx H pval sval) w w' := by
  obtain ⟨i2, hi2, hp0, hp1, hp2⟩ := info_parts info42
  obtain ⟨i9, hi9, hs0, hs1, hs2⟩ := info_parts info99
  have c1 := hM.cr.cell (show 0 < 1 by omega)
  have c2 := hM.cr.frozen 0
  have k1 : Hid (Kept (fun b => b = H + 12) w (w.setCell ⟨H + 12, 0, none⟩ (.int .i32 ((s.c : Int) + 1)))) := (show Kept (fun b => b = H + 12) w _ from (Kept.refl (fun b => b = H + 12) w).setCell (.inl rfl) _)
  have HB : Hid (Below wF.heap.size wF w) := hB
  have HF : Hid (Files wF n sp fp mp N deg ip A) := hF
  have HM : Hid (Mem H n sp w s O pval sval nv I) := hM
  have hcr : Hid ((w.setCell ⟨H + 12, 0, none⟩ (.int .i32 ((s.c : Int) + 1))).rowIs (H + 12) 21 1 (fun _ => .int .i32 ((s.c : Int) + 1))) := (hM.cr.set 0 _).congr (fun j hj => by simp; omega)
  clear hM hB hF
  go_enter Try.func17, Try.ntmps17
  go_wp2
  generalize w.setCell ⟨H + 12, 0, none⟩ (.int .i32 ((s.c : Int) + 1)) = w1 at *
  clear c1 c2
  -- region 1
  have hM := HM.out
  have B1 : Hid (Below wF.heap.size wF w1) := HB.out.trans (k1.out.below HB.out.size (fun x hx => by rw [hx]; omega))
  have hF1 := HF.out.below B1.out
  have r0 := hF1.id t ht
  have r1 := k1.out.cell hM.fv (by simp)
  have r2 := k1.out.cell hM.lv (by simp)
  have r3 := k1.out.cell hM.ov (by simp)
  have q1 : w1.rowIs (H + 4) 21 n (fun i => .int .i32 (s.f i : Nat)) := k1.out.row hM.fr (by simp)
  have q2 : w1.rowIs (H + 6) 21 n (fun i => .int .i32 (s.low i : Nat)) := k1.out.row hM.lr (by simp)
  have q3 : w1.rowIs (H + 8) 4 n (fun i => .bool (O i)) := k1.out.row hM.or (by simp)
  have r4 : w1.cell? ⟨H + 12, 0, none⟩ = some (.int .i32 ((s.c : Int) + 1)) := World.rowIs.cell hcr.out (show 0 < 1 by omega)
  have r5 := q1.cell ht
  have r6 := q2.cell ht
  have r7 := q3.cell ht
  have z5 := q1.frozen t
  have z6 := q2.frozen t
  have z7 := q3.frozen t
  have kA : Hid (Kept (fun b => b = H + 12 ∨ b = H + 4 ∨ b = H + 6 ∨ b = H + 8) w (((w1.setCell ⟨H + 4, t, none⟩ (.int .i32 ((s.c : Int) + 1))).setCell ⟨H + 6, t, none⟩ (.int .i32 ((s.c : Int) + 1))).setCell ⟨H + 8, t, none⟩ (.bool true)).drew) :=
    (show Kept _ w _ from ((((k1.out.mono (T := fun b => b = H + 12 ∨ b = H + 4 ∨ b = H + 6 ∨ b = H + 8) (fun x hx => .inl hx)).setCell (.inl (by simp)) _).setCell (.inl (by simp)) _).setCell (.inl (by simp)) _).trans (Kept.drewN noS _ 1) (fun x hx => hx.elim))
  have fr2 : Hid (World.rowIs (((w1.setCell ⟨H + 4, t, none⟩ (.int .i32 ((s.c : Int) + 1))).setCell ⟨H + 6, t, none⟩ (.int .i32 ((s.c : Int) + 1))).setCell ⟨H + 8, t, none⟩ (.bool true)).drew (H + 4) 21 n (fun i => .int .i32 (upd s.f t (s.c + 1) i : Nat))) :=
    (show World.rowIs _ _ _ _ _ from (((rowIs_upd_nat q1).setOther (by simp) _).setOther (by simp) _).drew)
  have lr2 : Hid (World.rowIs (((w1.setCell ⟨H + 4, t, none⟩ (.int .i32 ((s.c : Int) + 1))).setCell ⟨H + 6, t, none⟩ (.int .i32 ((s.c : Int) + 1))).setCell ⟨H + 8, t, none⟩ (.bool true)).drew (H + 6) 21 n (fun i => .int .i32 (upd s.low t (s.c + 1) i : Nat))) :=
    (show World.rowIs _ _ _ _ _ from ((rowIs_upd_nat (q2.setOther (by simp) _)).setOther (by simp) _).drew)
  have or2 : Hid (World.rowIs (((w1.setCell ⟨H + 4, t, none⟩ (.int .i32 ((s.c : Int) + 1))).setCell ⟨H + 6, t, none⟩ (.int .i32 ((s.c : Int) + 1))).setCell ⟨H + 8, t, none⟩ (.bool true)).drew (H + 8) 4 n (fun i => .bool (upd O t true i))) :=
    (show World.rowIs _ _ _ _ _ from (rowIs_upd_bool ((q3.setOther (by simp) _).setOther (by simp) _)).drew)
  have cr2 : Hid (World.rowIs (((w1.setCell ⟨H + 4, t, none⟩ (.int .i32 ((s.c : Int) + 1))).setCell ⟨H + 6, t, none⟩ (.int .i32 ((s.c : Int) + 1))).setCell ⟨H + 8, t, none⟩ (.bool true)).drew (H + 12) 21 1 (fun _ => .int .i32 ((s.c : Int) + 1))) :=
    (show World.rowIs _ _ _ _ _ from ((((show World.rowIs w1 _ _ _ _ from hcr.out).setOther (by simp) _).setOther (by simp) _).setOther (by simp) _).drew)
  have hsp := block_lt_of_cell (HF.out.id t ht)
  have n1 : (0 : Int) ≤ (t : Int) := by omega
  have n2 : (t : Int) < (n : Int) := by omega
  have m1 : ¬ (H + 4 = sp t) := by have : sp t < wF.heap.size := hsp; omega
  have m2 : ¬ (H + 6 = sp t) := by have : sp t < wF.heap.size := hsp; omega
  have m3 : ¬ (H + 8 = sp t) := by have : sp t < wF.heap.size := hsp; omega
  clear hM hF1 q1 q2 q3
  go_region_held3 (fun W => W.cell? ⟨sp t, 1, none⟩ = some (.int .i64 (t : Nat)) ∧ W.cell? ⟨H + 5, 0, none⟩ = some (.slice (some ⟨H + 4, 0, none⟩) n n) ∧ W.cell? ⟨H + 7, 0, none⟩ = some (.slice (some ⟨H + 6, 0, none⟩) n n) ∧ W.cell? ⟨H + 9, 0, none⟩ = some (.slice (some ⟨H + 8, 0, none⟩) n n) ∧ W.cell? ⟨H + 12, 0, none⟩ = some (.int .i32 ((s.c : Int) + 1))) (go_keep) (fail)
  generalize (((w1.setCell ⟨H + 4, t, none⟩ (.int .i32 ((s.c : Int) + 1))).setCell ⟨H + 6, t, none⟩ (.int .i32 ((s.c : Int) + 1))).setCell ⟨H + 8, t, none⟩ (.bool true)).drew = w2 at *
  clear r0 r1 r2 r3 r4 r5 r6 r7 z5 z6 z7 hcr k1 B1 m1 m2 m3
  have pge := fun q hq => own_ge HM.out.po q hq
  have sge := fun q hq => own_ge HM.out.so q hq
  have PGE : Hid _ := pge
  have SGE : Hid _ := sge
  clear pge sge
  have pr2 : w2.rowIs (H + 10) 41 1 (fun _ => pval) := kA.out.row HM.out.pr (by simp)
  have po2 : Hid (w2.ownsRow (H + 13) 42 1 pval s.m ((List.range s.m).map fun i => .pointer (some ⟨sp (s.op i), 0, none⟩))) := kA.out.owns HM.out.po (fun k hk => by have := PGE.out k hk; omega)
  have c3 := pr2.cell (show 0 < 1 by omega)
  have hsz2 : H + 13 ≤ w2.heap.size := by have := World.rowIs.lt (show w2.rowIs (H + 12) 21 1 _ from cr2.out); omega
  have f3 := pr2.frozen 0
  have PR2 : Hid (w2.rowIs (H + 10) 41 1 (fun _ => pval)) := pr2
  clear pr2
  go_wp2_with (at_builtin; refine wpList_append_lies _ rfl _ _ 41 rfl (H + 13) 42 i2 (.pointer none) 1 8 Try.underlying41 hi2 hp0 hp1 hp2 rfl (by decide) _ _ _ rfl (po2.out.alloc _) ⟨w2.heap.size, 0, none⟩ 1 1 [.pointer (some ⟨sp t, 0, none⟩)] rfl rfl ?d1 ?d2 (by decide) ?d3 ?d4 ?d5 (w2.heap.size + 1) ?d6 ?_)
  case d2 => rfl
  case d3 => unfold maxLen; omega
  case d4 => omega
  case d5 => omega
  intro g cap w3 hown3 hgrow3 hat3 hlt3
  have kB : Hid (Kept (fun b => pval.ownBlock = some b) w2 w3) := (show Kept (fun b => pval.ownBlock = some b) w2 w3 from ((Kept.refl _ _).alloc _).grown hgrow3 (fun k hk => .inl hk))
  have pr3 : w3.rowIs (H + 10) 41 1 (fun _ => pval) := kB.out.row PR2.out (fun h => by have := PGE.out _ h; omega)
  have c4 := pr3.cell (show 0 < 1 by omega)
  have f4 := pr3.frozen 0
  have kC : Hid (Kept (fun b => b = H + 10) w3 (w3.setCell ⟨H + 10, 0, none⟩ (.slice (some ⟨g, 0, none⟩) (s.m + 1) cap))) := (show Kept (fun b => b = H + 10) w3 _ from (Kept.refl (fun b => b = H + 10) w3).setCell (.inl rfl) _)
  have pr4 : Hid ((w3.setCell ⟨H + 10, 0, none⟩ (.slice (some ⟨g, 0, none⟩) (s.m + 1) cap)).rowIs (H + 10) 41 1 (fun _ => .slice (some ⟨g, 0, none⟩) (s.m + 1) cap)) := (show World.rowIs _ _ _ _ _ from (pr3.set 0 _).congr (fun j hj => by simp; omega))
  have HOWN3 : Hid _ := hown3
  have HAT3 : Hid _ := hat3
  clear hown3 hat3 hgrow3 pr3 c3 f3
  have hkz2 := kA.out.size
  have hs3 := kB.out.size
  have hB2 : Below wF.heap.size wF w2 := HB.out.trans (kA.out.below HB.out.size (fun x hx => by omega))
  have hB3 : Below wF.heap.size wF w3 := hB2.trans (kB.out.below hB2.size (fun x hx => by have := PGE.out x hx; omega))
  have hB4 : Hid (Below wF.heap.size wF (w3.setCell ⟨H + 10, 0, none⟩ (.slice (some ⟨g, 0, none⟩) (s.m + 1) cap))) := hB3.trans (kC.out.below hB3.size (fun x hx => by rw [hx]; omega))
  clear hB2 hB3
  go_wp2_with (go_at_call 18; refine (sortedImports_any wF HF.out hB4.out t ht hdeg).mono ?_; rintro _ w5 ⟨⟨_, Q, rfl, ⟨⟨a5, c5, rfl, hel⟩, hin, hon⟩⟩, kD⟩)
  have HEL : Hid _ := hel
  have HIN : Hid _ := hin
  have HON : Hid _ := hon
  have KD : Hid (Kept noS (w3.setCell ⟨H + 10, 0, none⟩ (.slice (some ⟨g, 0, none⟩) (s.m + 1) cap)) w5) := kD
  have hs5 := KD.out.size
  have hz4 : w3.heap.size ≤ w5.heap.size := Nat.le_trans kC.out.size KD.out.size
  have hB5 : Hid (Below wF.heap.size wF w5) := hB4.out.trans (KD.out.below hB4.out.size (fun x hx => hx.elim))
  clear hel hin hon kD
  go_wp2
  go_loopw [8, 40] (fun v z wr => ∃ k : Nat, z = .int .i64 k ∧ k ≤ deg t ∧ (k = 0 → v = .slice none 0 0) ∧ wr.ownsRow w5.heap.size 42 1 v k ((List.range k).map fun j => Value.pointer (some ⟨sp (A t (Q j)), 0, none⟩)) ∧ Kept noS w5 wr) (fun _ z _ => deg t - (intOf z).toNat)
  case atStart => exact ⟨0, rfl, Nat.zero_le _, fun _ => rfl, ⟨rfl, .inl ⟨rfl, rfl⟩⟩, Kept.refl _ _⟩
  case round =>
    obtain ⟨k, rfl, hk, hnil, hown, hkw⟩ := hrel
    have HBR : Hid (Below wF.heap.size wF wr) := hB5.out.trans (hkw.below hB5.out.size (fun x hx => hx.elim))
    have HFr : Hid (Files wr n sp fp mp N deg ip A) := HF.out.below HBR.out
    have hs6 := hkw.size
    by_cases hlt : k < deg t
    · obtain ⟨x, hx, hcx⟩ := HEL.out k hlt
      subst hx
      have hcell := hkw.cell hcx (fun h => h)
      have hlook := HFr.out.lookup ht (HIN.out k hlt)
      have htg := HFr.out.targets t ht
      clear hcx
      go_wp2_with (at_builtin; refine wpList_append_own _ rfl _ _ 41 rfl w5.heap.size 42 i2 (.pointer none) 1 8 Try.underlying41 hi2 hp0 hp1 hp2 rfl (by decide) _ _ _ rfl (hown.alloc _) ⟨wr.heap.size, 0, none⟩ 1 1 [.pointer (some ⟨sp (A t (Q k)), 0, none⟩)] rfl rfl ?e1 ?e2 ?e3 ?e4 ?e5 ?_)
      case e1 => intro j u hj; exact new_one _ _ rfl 42 _ j u hj
      case e2 => intro u hu; simp at hu; subst hu; rfl
      case e3 => unfold maxLen; omega
      case e4 => omega
      case e5 => simp; omega
      intro v' w6 hown' hgrow _
      go_wp2
      go_roundw
      case rel =>
        have hob : ∀ q, Value.ownBlock _ = some q → w5.heap.size ≤ q := own_ge hown
        exact ⟨k + 1, by go_num, by omega, fun h => absurd h (by omega), by rw [List.range_succ, List.map_append]; exact hown', (hkw.alloc _).grown hgrow (fun q hq => .inr (hob q hq))⟩
      case measure => simp [intOf]; omega
    · obtain rfl : k = deg t := by omega
      have sr6 : wr.rowIs (H + 11) 96 1 (fun _ => sval) := hkw.row (KD.out.row (kC.out.row (kB.out.row (kA.out.row HM.out.sr (by simp)) (fun h => by have := PGE.out _ h; omega)) (by simp)) (fun h => h)) (fun h => h)
      have so6 : wr.ownsRow (H + 13) 99 2 sval s.d ((List.range s.d).flatMap fun i => [.pointer (some ⟨sp (s.pa i), 0, none⟩), nv i]) :=
        hkw.owns (KD.out.owns (kC.out.owns (kB.out.owns (kA.out.owns HM.out.so (fun q hq => by have := SGE.out q hq; omega)) (fun q hq h => HM.out.sep q h hq)) (fun q hq => by have := SGE.out q hq; omega)) (fun q _ h => h)) (fun q _ h => h)
      have c6 := sr6.cell (show 0 < 1 by omega)
      have f6 := sr6.frozen 0
      have SO6 : Hid (wr.ownsRow (H + 13) 99 2 sval s.d ((List.range s.d).flatMap fun i => [.pointer (some ⟨sp (s.pa i), 0, none⟩), nv i])) := so6
      have SR6 : Hid (wr.rowIs (H + 11) 96 1 (fun _ => sval)) := sr6
      have HKW : Hid (Kept noS w5 wr) := hkw
      have FIN : ∀ (v8 : Value) (g7 cap7 : Nat) (w7 : World), wr.ownsRow w5.heap.size 42 1 v8 (deg t) ((List.range (deg t)).map fun j => Value.pointer (some ⟨sp (A t (Q j)), 0, none⟩)) → Kept (fun b => sval.ownBlock = some b) wr w7 →
          w7.ownsRow (H + 13) 99 2 (.slice (some ⟨g7, 0, none⟩) (s.d + 1) cap7) (s.d + 1) (((List.range s.d).flatMap fun i => [.pointer (some ⟨sp (s.pa i), 0, none⟩), nv i]) ++ [.pointer (some ⟨sp t, 0, none⟩), v8]) → (sval.ownBlock = some g7 ∨ g7 = wr.heap.size + 1) → g7 < w7.heap.size →
          (∃ pval' sval' nv' I' L, Mem H n sp (w7.setCell ⟨H + 11, 0, none⟩ (.slice (some ⟨g7, 0, none⟩) (s.d + 1) cap7)) (s.find t s.nx L) (upd O t true) pval' sval' nv' I' ∧ (∀ q, I q → I' q) ∧ (∀ u, u ∈ L ↔ ∃ k, k < deg t ∧ A t k = u) ∧ L.length = deg t) ∧ Kept (Sx H pval sval) w (w7.setCell ⟨H + 11, 0, none⟩ (.slice (some ⟨g7, 0, none⟩) (s.d + 1) cap7)) := fun v8 g7 cap7 w7 o6 kF o7 hat7 hlt7 =>
        find_done (At := A t) (Q := Q) HM.out kA.out fr2.out lr2.out or2.out cr2.out kB.out HOWN3.out HAT3.out hlt3 kC.out pr4.out KD.out HKW.out o6 kF o7 hat7 hlt7 (show Kept (fun b => b = H + 11) w7 _ from (Kept.refl (fun b => b = H + 11) w7).setCell (.inl rfl) _)
          (by
            have h1 : w7.rowIs (H + 11) 96 1 (fun _ => sval) := kF.row SR6.out (fun h => by have := SGE.out _ h; omega)
            exact (h1.set 0 _).congr (fun j hj => by simp; omega)) HIN.out HON.out
      have HFIN : Hid _ := FIN
      have hkn := own_cap hown
      clear so6 sr6 hkw FIN
      rcases hkn with ⟨hv, hd0⟩ | ⟨q8, c8, hv, hq1, hq2, hq3⟩
      · subst hv
        have HOWN : Hid (wr.ownsRow w5.heap.size 42 1 (.slice none 0 0) (deg t) ((List.range (deg t)).map fun j => Value.pointer (some ⟨sp (A t (Q j)), 0, none⟩))) := hown
        clear hown hnil
        go_wp2_with (at_builtin; refine wpList_append_lies _ rfl _ _ 96 rfl (H + 13) 99 i9 (.agg #[.pointer none, .slice none 0 0]) 2 32 Try.underlying96 hi9 hs0 hs1 hs2 rfl (by decide) _ _ _ rfl (SO6.out.alloc _) ⟨wr.heap.size, 0, none⟩ 1 1 [.pointer (some ⟨sp t, 0, none⟩), .slice none 0 0] rfl rfl ?g1 ?g2 (by decide) ?g3 ?g4 ?g5 (wr.heap.size + 1) ?g6 ?_)
        case g1 => intro j u hj; exact World.news_of_block (cs := #[_, _]) (alloc_at _ _ _ rfl) j u hj
        case g2 => first | exact ⟨rfl, rfl⟩ | (intro u hu; simp at hu; rcases hu with rfl | rfl <;> rfl)
        case g3 => unfold maxLen; omega
        case g4 => omega
        case g5 => first | omega | (simp; omega)
        case g6 => simp
        intro g7 cap7 w7 hown7 hgrow7 hat7 hlt7
        have kF : Kept (fun b => sval.ownBlock = some b) wr w7 := ((Kept.refl _ _).alloc _).grown hgrow7 (fun k hk => .inl hk)
        have sr7 : w7.rowIs (H + 11) 96 1 (fun _ => sval) := kF.row SR6.out (fun h => by have := SGE.out _ h; omega)
        have c7 := sr7.cell (show 0 < 1 by omega)
        have f7 := sr7.frozen 0
        have HDONE : Hid _ := HFIN.out _ g7 cap7 w7 HOWN.out kF hown7 hat7 hlt7
        clear hown7 hgrow7 hat7 kF sr7
        go_wp2
        go_end0
        exact ⟨rfl, HDONE.out⟩
      · subst hv
        have HOWN : Hid (wr.ownsRow w5.heap.size 42 1 (.slice (some ⟨q8, 0, none⟩) (deg t) c8) (deg t) ((List.range (deg t)).map fun j => Value.pointer (some ⟨sp (A t (Q j)), 0, none⟩))) := hown
        clear hown hnil
        go_wp2_with (at_builtin; refine wpList_append_lies _ rfl _ _ 96 rfl (H + 13) 99 i9 (.agg #[.pointer none, .slice none 0 0]) 2 32 Try.underlying96 hi9 hs0 hs1 hs2 rfl (by decide) _ _ _ rfl (SO6.out.alloc _) ⟨wr.heap.size, 0, none⟩ 1 1 [.pointer (some ⟨sp t, 0, none⟩), .slice (some ⟨q8, 0, none⟩) (deg t) c8] rfl rfl ?m1 ?m2 (by decide) ?m3 ?m4 ?m5 (wr.heap.size + 1) ?m6 ?_)
        case m1 => intro j u hj; exact World.news_of_block (cs := #[_, _]) (alloc_at _ _ _ rfl) j u hj
        case m2 => first | exact ⟨rfl, rfl⟩ | (intro u hu; simp at hu; rcases hu with rfl | rfl <;> rfl)
        case m3 => unfold maxLen; omega
        case m4 => omega
        case m5 => first | omega | (simp; omega)
        case m6 => simp
        intro g7 cap7 w7 hown7 hgrow7 hat7 hlt7
        have kF : Kept (fun b => sval.ownBlock = some b) wr w7 := ((Kept.refl _ _).alloc _).grown hgrow7 (fun k hk => .inl hk)
        have sr7 : w7.rowIs (H + 11) 96 1 (fun _ => sval) := kF.row SR6.out (fun h => by have := SGE.out _ h; omega)
        have c7 := sr7.cell (show 0 < 1 by omega)
        have f7 := sr7.frozen 0
        have HDONE : Hid _ := HFIN.out _ g7 cap7 w7 HOWN.out kF hown7 hat7 hlt7
        clear hown7 hgrow7 hat7 kF sr7
        go_wp2
        go_end0
        exact ⟨rfl, HDONE.out⟩
end Go.Proofs.Qxb6613158a
