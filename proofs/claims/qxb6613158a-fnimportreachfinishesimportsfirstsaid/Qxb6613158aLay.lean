/-
  HOW ZZnewImportReach LAYS THE FILES: a family of owned rows; the files laid so far; the steps.
-/
import Derived.Test.Qxb6613158aFiles
import Derived.Test.Qxb6613158aRange
import Derived.Test.Qxb6613158aReach
import Derived.Deep.AppendLies
import Derived.Deep.OwnRows
namespace Go.Proofs.Qxb6613158a
open Go.RowKit Tj
set_option linter.unusedSimpArgs false
set_option linter.unusedVariables false

/-- A family of owned rows, no two of which lie in one block. -/
structure Rws (w : World) (B : Nat) (e : TypeId) (n : Nat) (av : Nat → Value) (xs : Nat → List Value) : Prop where
  own : ∀ j, j < n → w.ownsRow B e 1 (av j) (xs j).length (xs j)
  dj : ∀ j k g, j < n → k < n → j ≠ k → (av j).ownBlock = some g → (av k).ownBlock ≠ some g

theorem own_block {w : World} {B n sz : Nat} {e : TypeId} {v : Value} {xs : List Value} (h : w.ownsRow B e sz v n xs) {g : Nat} (hg : v.ownBlock = some g) : B ≤ g ∧ ∃ c, w.heap[g]? = some (.cells c e (0, 0)) := by
  rcases h.2 with ⟨hv, _⟩ | ⟨g', cap, cur, hv, hb, hh, _⟩
  · rw [hv] at hg; cases hg
  · rw [hv] at hg
    have : g' = g := by simpa [Value.ownBlock] using hg
    subst this
    exact ⟨hb, _, hh⟩

theorem own_form {w : World} {B n sz : Nat} {e : TypeId} {v : Value} {xs : List Value} (h : w.ownsRow B e sz v n xs) : ∃ a c, v = .slice a n c := by
  rcases h.2 with ⟨hv, h0⟩ | ⟨g', cap, cur, hv, _⟩
  · exact ⟨none, 0, by rw [hv, h0]⟩
  · exact ⟨_, _, hv⟩

theorem own_cell {w : World} {B n : Nat} {e : TypeId} {a : Option Addr} {c : Nat} {xs : List Value} (h : w.ownsRow B e 1 (.slice a n c) n xs) {k : Nat} (hk : k < n) {v : Value} (hv : xs[k]? = some v) : ∃ x : Addr, a = some x ∧ w.cell? (x.add k) = some v := by
  rcases h.2 with ⟨_, h0⟩ | ⟨g, cap, cur, hv', hb, hh, hn, hc, hs, ht⟩
  · omega
  · have ha : a = some ⟨g, 0, none⟩ := by injection hv'
    refine ⟨_, ha, ?_⟩
    rw [addr_add, Nat.zero_add, cell_of_row w g k cur e (0, 0) hh]
    rw [← ht, List.getElem?_take_of_lt (by omega)] at hv
    simpa using hv

section
variable {w w' : World} {B n : Nat} {e : TypeId} {av : Nat → Value} {xs : Nat → List Value}

theorem Rws.kept {S : Nat → Prop} (h : Rws w B e n av xs) (hk : Kept S w w') (hS : ∀ j g, j < n → (av j).ownBlock = some g → ¬ S g) : Rws w' B e n av xs :=
  ⟨fun j hj => hk.owns (h.own j hj) (fun g hg => hS j g hj hg), h.dj⟩

theorem Rws.next {S : Nat → Prop} (h : Rws w B e n av xs) {i : Nat} (hi : i < n) (hk : Kept S w w') (hS : ∀ j g, j < n → j ≠ i → (av j).ownBlock = some g → ¬ S g) {v : Value} {ys : List Value} (hv : w'.ownsRow B e 1 v ys.length ys) (hb : ∀ g, v.ownBlock = some g → (av i).ownBlock = some g ∨ w.heap.size ≤ g) :
    Rws w' B e n (upd av i v) (upd xs i ys) := by
  have hlt : ∀ j g, j < n → (av j).ownBlock = some g → g < w.heap.size := fun j g hj hg => by
    obtain ⟨_, c, hc⟩ := own_block (h.own j hj) hg
    exact (Array.getElem?_eq_some_iff.1 hc).1
  refine ⟨fun j hj => ?_, fun j k g hj hk2 hne hg hg2 => ?_⟩
  · by_cases e : j = i
    · subst e; rw [upd_same, upd_same]; exact hv
    · rw [upd_other _ _ e, upd_other _ _ e]
      exact hk.owns (h.own j hj) (fun g hg => hS j g hj e hg)
  · by_cases e : j = i
    · subst e
      rw [upd_same] at hg
      rw [upd_other _ _ (fun h => hne h.symm)] at hg2
      rcases hb g hg with h2 | h2
      · exact h.dj j k g hj hk2 hne h2 hg2
      · have := hlt k g hk2 hg2; omega
    · rw [upd_other _ _ e] at hg
      by_cases e2 : k = i
      · subst e2
        rw [upd_same] at hg2
        rcases hb g hg2 with h2 | h2
        · exact h.dj j k g hj hk2 hne hg h2
        · have := hlt j g hj hg; omega
      · rw [upd_other _ _ e2] at hg2
        exact h.dj j k g hj hk2 hne hg hg2
end

/-- A source as it lies; a file as it lies. -/
def SrcAt (w : World) (b f i : Nat) (s : ByteArray) (m : Nat) : Prop := ∃ c, w.rowIs b 70 5 c ∧ c 0 = .pointer (some ⟨f, 0, none⟩) ∧ c 1 = .int .i64 (i : Nat) ∧ c 2 = .string s ∧ c 4 = .map (some m)
def FilAt (w : World) (b : Nat) (s : ByteArray) (v : Value) : Prop := ∃ c, w.rowIs b 67 15 c ∧ c 0 = .string s ∧ c 7 = v

/-- The pointers to the imports laid so far. -/
def ptrs (ip : Nat → Nat) (d : Nat) : List Value := (List.range d).map (fun k => .pointer (some ⟨ip k, 0, none⟩))

/-- What has been laid: m files. -/
structure Lay (w : World) (H n m : Nat) (sp fp mp : Nat → Nat) (N : Nat → ByteArray) (deg : Nat → Nat) (ip A : Nat → Nat → Nat) (av : Nat → Value) : Prop where
  src : ∀ j, j < m → SrcAt w (sp j) (fp j) j (N j) (mp j)
  fil : ∀ j, j < m → FilAt w (fp j) (N j) (av j)
  map : ∀ j, j < m → w.heap[mp j]? = some (.map (pEnts (ip j) (fun k => sp (A j k)) (deg j)).toArray (deg j))
  rws : Rws w (H + 1) 71 m av (fun j => ptrs (ip j) (deg j))
  imp : ∀ j k, j < m → k < deg j → ImpAt w (ip j k)
  sj : ∀ i j, i < m → j < m → sp i = sp j → i = j
  fj : ∀ i j, i < m → j < m → fp i = fp j → i = j
  mj : ∀ i j, i < m → j < m → mp i = mp j → i = j
  ij : ∀ i j k, i < m → j < deg i → k < deg i → ip i j = ip i k → j = k
  adj : ∀ j k, j < m → k < deg j → A j k < n
  up : ∀ j, j < m → H < fp j ∧ H < mp j ∧ H < sp j
  lst : w.rowIs H 42 n (fun k => if k < m then .pointer (some ⟨sp k, 0, none⟩) else .pointer none)

variable {w w' : World} {H n m : Nat} {sp fp mp : Nat → Nat} {N : Nat → ByteArray} {deg : Nat → Nat} {ip A : Nat → Nat → Nat} {av : Nat → Value}

theorem row_obj {w : World} {b n : Nat} {t : TypeId} {f : Nat → Value} (h : w.rowIs b t n f) : ∃ c, w.heap[b]? = some (.cells c t (0, 0)) := let ⟨c, h, _⟩ := h; ⟨c, h⟩

theorem SrcAt.kept {S : Nat → Prop} {b f i mm : Nat} {s : ByteArray} (h : SrcAt w b f i s mm) (hk : Kept S w w') (hb : ¬ S b) : SrcAt w' b f i s mm := let ⟨c, h1, h2⟩ := h; ⟨c, hk.row h1 hb, h2⟩
theorem FilAt.kept {S : Nat → Prop} {b : Nat} {s : ByteArray} {v : Value} (h : FilAt w b s v) (hk : Kept S w w') (hb : ¬ S b) : FilAt w' b s v := let ⟨c, h1, h2⟩ := h; ⟨c, hk.row h1 hb, h2⟩
theorem FilAt.set {b : Nat} {s : ByteArray} {v : Value} (h : FilAt w b s v) (u : Value) : FilAt (w.setCell ⟨b, 7, none⟩ u) b s u := by
  obtain ⟨c, h1, h2, h3⟩ := h
  exact ⟨_, h1.set 7 u, by simp [h2], by simp⟩

/-- The files, at the end. -/
theorem Lay.files (h : Lay w H n n sp fp mp N deg ip A av) : Files w n sp fp mp N deg ip A := by
  refine ⟨h.sj, fun i hi => ?_, fun i hi => ?_, fun i hi => ?_, fun i hi => ?_, fun i hi => ?_, fun i hi => ?_, fun i hi => ?_, h.imp, h.ij, h.map, h.adj⟩
  · obtain ⟨c, h1, _⟩ := h.src i hi; exact row_obj h1
  · obtain ⟨c, h1, h2, _⟩ := h.src i hi; rw [h1.cell (show 0 < 5 by omega), h2]
  · obtain ⟨c, h1, _, h2, _⟩ := h.src i hi; rw [h1.cell (show 1 < 5 by omega), h2]
  · obtain ⟨c, h1, _, _, h2, _⟩ := h.src i hi; rw [h1.cell (show 2 < 5 by omega), h2]
  · obtain ⟨c, h1, _, _, _, h2⟩ := h.src i hi; rw [h1.cell (show 4 < 5 by omega), h2]
  · obtain ⟨c, h1, h2, _⟩ := h.fil i hi; rw [h1.cell (show 0 < 15 by omega), h2]
  · obtain ⟨c, h1, _, h2⟩ := h.fil i hi
    have ho := h.rws.own i hi
    have hl : (ptrs (ip i) (deg i)).length = deg i := by simp [ptrs]
    rw [hl] at ho
    obtain ⟨a, cc, ha⟩ := own_form ho
    refine ⟨a, cc, by rw [h1.cell (show 7 < 15 by omega), h2, ha], fun k hk => ?_⟩
    rw [ha] at ho
    exact own_cell ho hk (by simp [ptrs, hk])

/-- A file more (loop 1). -/
theorem Lay.one {ip0 : Nat → Nat → Nat} (h : Lay w H n m sp fp mp N (fun _ => 0) ip0 A (fun _ => .slice none 0 0)) (hm : m < n) {f g s : Nat} (hk : Kept (fun b => b = H) w w') (hf : w.heap.size ≤ f) (hg : w.heap.size ≤ g) (hs : w.heap.size ≤ s)
    (hF : FilAt w' f (N m) (.slice none 0 0)) (hG : w'.heap[g]? = some (.map #[] 0)) (hS : SrcAt w' s f m (N m) g) (hL : w'.rowIs H 42 n (fun k => if k < m + 1 then .pointer (some ⟨upd sp m s k, 0, none⟩) else .pointer none)) :
    Lay w' H n (m + 1) (upd sp m s) (upd fp m f) (upd mp m g) N (fun _ => 0) ip0 A (fun _ => .slice none 0 0) := by
  have hH : H < w.heap.size := h.lst.lt
  have lts : ∀ j, j < m → sp j < w.heap.size := fun j hj => by obtain ⟨c, h1, _⟩ := h.src j hj; exact h1.lt
  have ltf : ∀ j, j < m → fp j < w.heap.size := fun j hj => by obtain ⟨c, h1, _⟩ := h.fil j hj; exact h1.lt
  have ltm : ∀ j, j < m → mp j < w.heap.size := fun j hj => (Array.getElem?_eq_some_iff.1 (h.map j hj)).1
  have inj : ∀ (p : Nat → Nat) (x : Nat), (∀ i j, i < m → j < m → p i = p j → i = j) → (∀ j, j < m → p j < w.heap.size) → w.heap.size ≤ x → ∀ i j, i < m + 1 → j < m + 1 → upd p m x i = upd p m x j → i = j := fun p x hp hlt hx i j hi hj e => by
    by_cases e1 : i = m <;> by_cases e2 : j = m
    · omega
    · rw [e1, upd_same, upd_other _ _ e2] at e
      have := hlt j (by omega); omega
    · rw [e2, upd_same, upd_other _ _ e1] at e
      have := hlt i (by omega); omega
    · rw [upd_other _ _ e1, upd_other _ _ e2] at e
      exact hp i j (by omega) (by omega) e
  refine ⟨fun j hj => ?_, fun j hj => ?_, fun j hj => ?_, ⟨fun j hj => ⟨rfl, .inl ⟨rfl, rfl⟩⟩, fun j k g _ _ _ hg => by cases hg⟩, fun j k _ hk => absurd hk (Nat.not_lt_zero _), inj sp s h.sj lts hs, inj fp f h.fj ltf hf, inj mp g h.mj ltm hg, fun i j k _ hj => absurd hj (Nat.not_lt_zero _), fun j k _ hk => absurd hk (Nat.not_lt_zero _), fun j hj => ?_, hL⟩
  · by_cases e : j = m
    · subst e; rw [upd_same, upd_same, upd_same]; exact hS
    · rw [upd_other _ _ e, upd_other _ _ e, upd_other _ _ e]
      exact (h.src j (by omega)).kept hk (by have := (h.up j (by omega)).2.2; omega)
  · by_cases e : j = m
    · subst e; rw [upd_same]; exact hF
    · rw [upd_other _ _ e]
      exact (h.fil j (by omega)).kept hk (by have := (h.up j (by omega)).1; omega)
  · by_cases e : j = m
    · subst e; rw [upd_same]; exact hG
    · rw [upd_other _ _ e, hk.block _ (ltm j (by omega)) (by have := (h.up j (by omega)).2.1; omega)]
      exact h.map j (by omega)
  · by_cases e : j = m
    · subst e; rw [upd_same, upd_same, upd_same]; omega
    · rw [upd_other _ _ e, upd_other _ _ e, upd_other _ _ e]; exact h.up j (by omega)

theorem ptrs_congr {p q : Nat → Nat} {d : Nat} (h : ∀ k, k < d → p k = q k) : ptrs p d = ptrs q d := by
  unfold ptrs
  apply List.map_congr_left
  intro k hk
  rw [h k (by simpa using hk)]

theorem ptrs_succ (p : Nat → Nat) (d q : Nat) : ptrs (upd p d q) (d + 1) = ptrs p d ++ [.pointer (some ⟨q, 0, none⟩)] := by
  have : ptrs (upd p d q) (d + 1) = ptrs (upd p d q) d ++ [.pointer (some ⟨upd p d q d, 0, none⟩)] := by
    unfold ptrs; rw [List.range_succ, List.map_append]; rfl
  rw [this, upd_same, ptrs_congr (fun k hk => upd_other _ _ (by omega))]

theorem pEnts_congr {p q tg : Nat → Nat} {d : Nat} (h : ∀ k, k < d → p k = q k) : pEnts p tg d = pEnts q tg d := by
  unfold pEnts
  apply List.map_congr_left
  intro k hk
  unfold pEnt
  rw [h k (by simpa using hk)]

/-- Who may be written in a round. -/
def Sr (fp mp : Nat → Nat) (av : Nat → Value) (i : Nat) : Nat → Prop := fun b => (av i).ownBlock = some b ∨ b = fp i ∨ b = mp i

/-- An import more (loop 3's round). -/
theorem Lay.next (h : Lay w H n n sp fp mp N deg ip A av) {i : Nat} (hi : i < n) (hA : A i (deg i) < n) (hk : Kept (Sr fp mp av i) w w') {v : Value} {q : Nat} (hF : FilAt w' (fp i) (N i) v)
    (hM : w'.heap[mp i]? = some (.map (pEnts (upd (ip i) (deg i) q) (fun k => sp (A i k)) (deg i + 1)).toArray (deg i + 1))) (hv : w'.ownsRow (H + 1) 71 1 v (deg i + 1) (ptrs (ip i) (deg i) ++ [.pointer (some ⟨q, 0, none⟩)]))
    (hb : ∀ g, v.ownBlock = some g → (av i).ownBlock = some g ∨ w.heap.size ≤ g) (hq : w.heap.size ≤ q) (hI : ImpAt w' q) :
    Lay w' H n n sp fp mp N (upd deg i (deg i + 1)) (upd ip i (upd (ip i) (deg i) q)) A (upd av i v) := by
  -- kinds of blocks
  have kr : ∀ j g, j < n → (av j).ownBlock = some g → ∃ c, w.heap[g]? = some (.cells c 71 (0, 0)) := fun j g hj hg => (own_block (h.rws.own j hj) hg).2
  have ks : ∀ j, j < n → ∃ c, w.heap[sp j]? = some (.cells c 70 (0, 0)) := fun j hj => by obtain ⟨c, h1, _⟩ := h.src j hj; exact row_obj h1
  have kf : ∀ j, j < n → ∃ c, w.heap[fp j]? = some (.cells c 67 (0, 0)) := fun j hj => by obtain ⟨c, h1, _⟩ := h.fil j hj; exact row_obj h1
  have kl := row_obj h.lst
  have no : ∀ (b : Nat) (o : Obj), w.heap[b]? = some o → (∀ c, o ≠ .cells c 71 (0, 0)) → b ≠ fp i → b ≠ mp i → ¬ Sr fp mp av i b := fun b o ho h1 h2 h3 hs => by
    rcases hs with hs | hs | hs
    · obtain ⟨c, hc⟩ := kr i b hi hs
      rw [ho] at hc
      injection hc with hc
      exact h1 c hc
    · exact h2 hs
    · exact h3 hs
  have hne : ∀ {a b : Nat} {oa ob : Obj}, w.heap[a]? = some oa → w.heap[b]? = some ob → oa ≠ ob → a ≠ b := fun ha hb hne e => by
    subst e
    rw [ha] at hb
    injection hb with hb
    exact hne hb
  obtain ⟨cf, hcf⟩ := kf i hi
  have hcm := h.map i hi
  have nos : ∀ j, j < n → ¬ Sr fp mp av i (sp j) := fun j hj => by
    obtain ⟨c, hc⟩ := ks j hj
    exact no _ _ hc (fun c e => by injection e with _ e; cases e) (hne hc hcf (fun e => by injection e with _ e; cases e)) (hne hc hcm (fun e => by cases e))
  have nof : ∀ j, j < n → j ≠ i → ¬ Sr fp mp av i (fp j) := fun j hj hji => by
    obtain ⟨c, hc⟩ := kf j hj
    exact no _ _ hc (fun c e => by injection e with _ e; cases e) (fun e => hji (h.fj j i hj hi e)) (hne hc hcm (fun e => by cases e))
  have nom : ∀ j, j < n → j ≠ i → ¬ Sr fp mp av i (mp j) := fun j hj hji =>
    no _ _ (h.map j hj) (fun c e => by cases e) (hne (h.map j hj) hcf (fun e => by cases e)) (fun e => hji (h.mj j i hj hi e))
  have noi : ∀ j k, j < n → k < deg j → ¬ Sr fp mp av i (ip j k) := fun j k hj hk2 => by
    obtain ⟨c, hc⟩ := h.imp j k hj hk2
    exact no _ _ hc (fun c e => by injection e with _ e; cases e) (hne hc hcf (fun e => by injection e with _ e; cases e)) (hne hc hcm (fun e => by cases e))
  have nol : ¬ Sr fp mp av i H := by
    obtain ⟨c, hc⟩ := kl
    exact no _ _ hc (fun c e => by injection e with _ e; cases e) (hne hc hcf (fun e => by injection e with _ e; cases e)) (hne hc hcm (fun e => by cases e))
  have nor : ∀ j g, j < n → j ≠ i → (av j).ownBlock = some g → ¬ Sr fp mp av i g := fun j g hj hji hg hs => by
    obtain ⟨c, hc⟩ := kr j g hj hg
    rcases hs with hs | hs | hs
    · exact h.rws.dj j i g hj hi hji hg hs
    · exact hne hc hcf (fun e => by injection e with _ e; cases e) hs
    · exact hne hc hcm (fun e => by cases e) hs
  have impLt : ∀ j k, j < n → k < deg j → ip j k < w.heap.size := fun j k hj hk2 => by obtain ⟨c, hc⟩ := h.imp j k hj hk2; exact heap_lt hc
  refine ⟨fun j hj => (h.src j hj).kept hk (nos j hj), fun j hj => ?_, fun j hj => ?_, ?_, fun j k hj hk2 => ?_, h.sj, h.fj, h.mj, fun i' j k hi' hj hk2 e => ?_, fun j k hj hk2 => ?_, h.up, hk.row h.lst nol⟩
  · by_cases e : j = i
    · subst e; rw [upd_same]; exact hF
    · rw [upd_other _ _ e]; exact (h.fil j hj).kept hk (nof j hj e)
  · by_cases e : j = i
    · subst e; rw [upd_same, upd_same]; exact hM
    · rw [upd_other _ _ e, upd_other _ _ e, hk.block _ (heap_lt (h.map j hj)) (nom j hj e)]; exact h.map j hj
  · have hl : (ptrs (ip i) (deg i) ++ [Value.pointer (some ⟨q, 0, none⟩)]).length = deg i + 1 := by simp [ptrs]
    have hr := h.rws.next hi hk nor (v := v) (ys := ptrs (ip i) (deg i) ++ [.pointer (some ⟨q, 0, none⟩)]) (by rw [hl]; exact hv) hb
    refine ⟨fun j hj => ?_, hr.dj⟩
    have h1 := hr.own j hj
    by_cases e : j = i
    · subst e
      rw [upd_same, upd_same] at h1
      rw [upd_same, upd_same, upd_same, ptrs_succ]; exact h1
    · rw [upd_other _ _ e, upd_other _ _ e] at h1
      rw [upd_other _ _ e, upd_other _ _ e, upd_other _ _ e]; exact h1
  · by_cases e : j = i
    · subst e
      rw [upd_same] at hk2 ⊢
      by_cases e2 : k = deg j
      · subst e2; rw [upd_same]; exact hI
      · rw [upd_other _ _ e2]
        obtain ⟨c, hc⟩ := h.imp j k hj (by omega)
        exact ⟨c, (hk.block _ (heap_lt hc) (noi j k hj (by omega))).trans hc⟩
    · rw [upd_other _ _ e] at hk2 ⊢
      obtain ⟨c, hc⟩ := h.imp j k hj hk2
      exact ⟨c, (hk.block _ (heap_lt hc) (noi j k hj hk2)).trans hc⟩
  · by_cases e1 : i' = i
    · subst e1
      rw [upd_same] at e hj hk2
      by_cases e2 : j = deg i' <;> by_cases e3 : k = deg i'
      · omega
      · rw [e2, upd_same, upd_other _ _ e3] at e
        have := impLt i' k hi' (by omega); omega
      · rw [e3, upd_same, upd_other _ _ e2] at e
        have := impLt i' j hi' (by omega); omega
      · rw [upd_other _ _ e2, upd_other _ _ e3] at e
        exact h.ij i' j k hi' (by omega) (by omega) e
    · rw [upd_other _ _ e1] at e hj hk2
      exact h.ij i' j k hi' hj hk2 e
  · by_cases e : j = i
    · subst e
      rw [upd_same] at hk2
      by_cases e2 : k = deg j
      · subst e2; exact hA
      · exact h.adj j k hj (by omega)
    · rw [upd_other _ _ e] at hk2
      exact h.adj j k hj hk2
end Go.Proofs.Qxb6613158a
