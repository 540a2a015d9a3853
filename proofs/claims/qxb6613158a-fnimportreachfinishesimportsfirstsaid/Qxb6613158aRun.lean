/-
  WHAT newImportReach HOLDS AS IT GOES: the plain walk's invariant, the memory, what will be handed back. How each step keeps it.
-/
import Derived.Test.Qxb6613158aState
namespace Go.Proofs.Qxb6613158a
open Go.RowKit Tj
set_option linter.unusedSimpArgs false
set_option linter.unusedVariables false

/-- What each file imports, by number. -/
def adjOf (deg : Nat → Nat) (A : Nat → Nat → Nat) (v : Nat) : List Nat := (List.range (deg v)).map (A v)

theorem mem_adjOf {deg : Nat → Nat} {A : Nat → Nat → Nat} {v u : Nat} : u ∈ adjOf deg A v ↔ ∃ k, k < deg v ∧ A v k = u := by
  unfold adjOf
  constructor
  · intro h
    obtain ⟨k, hk, e⟩ := List.mem_map.1 h
    exact ⟨k, by simpa using hk, e⟩
  · rintro ⟨k, hk, e⟩
    exact List.mem_map.2 ⟨k, by simpa using hk, e⟩

structure Run (wF : World) (H n gN gB gA : Nat) (sp deg : Nat → Nat) (A : Nat → Nat → Nat) (w : World) (s : St) (O : Nat → Bool) (pval sval : Value) (nv : Nat → Value) (I : Nat → Prop) (bv : Nat → Value) (fa la : Nat → Int) (cyc : Value) : Prop where
  inv : Inv n (adjOf deg A) s
  mem : Mem H n sp w s O pval sval nv I
  res : Res H n gN gB gA w s.num bv fa la cyc I
  opn : ∀ v, v < n → (O v = true ↔ s.Open v)
  cnt : s.c + cnt (fun j => decide (s.f j = 0)) n = n
  same : ∀ u v, s.Done n u → s.Done n v → s.hi u = s.hi v → bv u = bv v
  frame : Below wF.heap.size wF w

variable {wF w w2 : World} {H n gN gB gA : Nat} {sp fp mp deg : Nat → Nat} {N : Nat → ByteArray} {ip A : Nat → Nat → Nat} {s : St} {O : Nat → Bool} {pval sval : Value} {nv : Nat → Value} {I : Nat → Prop} {bv : Nat → Value} {fa la : Nat → Int} {cyc : Value}

/-- Somebody is still to be found: there is room. -/
theorem Run.room (h : Run wF H n gN gB gA sp deg A w s O pval sval nv I bv fa la cyc) {t : Nat} (ht : t < n) (hf : s.f t = 0) : s.c < n ∧ s.m < n ∧ s.d < n := by
  have h1 := cnt_set (p := fun j => decide (s.f j = 0)) (q := fun j => if j = t then false else decide (s.f j = 0)) t (by simp [hf]) (by simp) (fun j hj => by simp [hj]) n ht
  have h2 := h.cnt
  have h3 := h.inv.m_le
  have h4 := h.inv.d_le
  omega

theorem done_find {t : Nat} {nx0 : Nat → List Nat} {L : List Nat} (hf : s.f t = 0) {v : Nat} (h : (s.find t nx0 L).Done n v) : s.Done n v := by
  obtain ⟨h1, h2, h3⟩ := h
  have ht : v ≠ t := fun e => h3 ⟨s.m, show s.m < s.m + 1 by omega, by rw [e]; exact upd_same _ _ _⟩
  refine ⟨h1, ?_, fun ho => h3 ?_⟩
  · have : (s.find t nx0 L).f v = s.f v := upd_other _ _ ht
    rw [this] at h2
    exact h2
  · obtain ⟨i, hi, e⟩ := ho
    exact ⟨i, show i < s.m + 1 by omega, by rw [← e]; exact upd_other _ _ (show i ≠ s.m by omega)⟩

/-- A file has been found. -/
theorem Run.found (hP : Places H gN gB gA) (hH : wF.heap.size ≤ H) (h : Run wF H n gN gB gA sp deg A w s O pval sval nv I bv fa la cyc) {t : Nat} {nx0 : Nat → List Nat} {L : List Nat} {pval' sval' : Value} {nv' : Nat → Value} {I' : Nat → Prop} (ht : t < n) (hf : s.f t = 0) (hedge : 0 < s.d → t ∈ adjOf deg A (s.pa (s.d - 1)))
    (h1 : ∀ i, i < s.d → ∀ u, u ∈ s.nx i → u = t ∨ u ∈ nx0 i) (h2 : ∀ i, i < s.d → ∀ u, u ∈ nx0 i → u ∈ s.nx i) (hL : ∀ u, u ∈ L ↔ ∃ k, k < deg t ∧ A t k = u)
    (hM : Mem H n sp w2 (s.find t nx0 L) (upd O t true) pval' sval' nv' I') (hI : ∀ q, I q → I' q) (hk : Kept (Sx H pval sval) w w2) :
    Run wF H n gN gB gA sp deg A w2 (s.find t nx0 L) (upd O t true) pval' sval' nv' I' bv fa la cyc := by
  obtain ⟨p1, p2, p3, p4, p5, p6, p7, p8, p9⟩ := hP
  have hS : ∀ {x : Nat}, x < H + 4 → ¬ Sx H pval sval x := fun {x} hx h3 => by
    unfold Sx at h3
    rcases h3 with h3 | h3 | h3 | h3 | h3 | h3 | h3 | h3
    · omega
    · omega
    · omega
    · omega
    · omega
    · omega
    · have := h.mem.plt h3; omega
    · have := h.mem.slt h3; omega
  refine ⟨h.inv.find ht hf hedge h1 h2 (fun u => by rw [mem_adjOf]; exact hL u), hM, ?_, ?_, ?_, ?_, ?_⟩
  · have r := h.res.kept hk (hS (by omega)) (hS (by omega)) (hS (by omega)) (hS (by omega)) (fun q hq h3 => by
      obtain ⟨a, b, c, d⟩ := h.mem.imm q hq
      unfold Sx at h3
      rcases h3 with h3 | h3 | h3 | h3 | h3 | h3 | h3 | h3
      · omega
      · omega
      · omega
      · omega
      · omega
      · omega
      · exact c h3
      · exact d h3)
    exact r.more hI (fun q hq => ⟨(hM.imm q hq).1, (hM.imm q hq).2.1⟩)
  · intro v hv
    constructor
    · intro h3
      by_cases e : v = t
      · exact ⟨s.m, show s.m < s.m + 1 by omega, by rw [e]; exact upd_same _ _ _⟩
      · rw [upd_other _ _ e] at h3
        obtain ⟨i, hi, e2⟩ := (h.opn v hv).1 h3
        exact ⟨i, show i < s.m + 1 by omega, by rw [← e2]; exact upd_other _ _ (show i ≠ s.m by omega)⟩
    · rintro ⟨i, hi, e2⟩
      have hi' : i < s.m + 1 := hi
      by_cases e : v = t
      · rw [e, upd_same]
      · rw [upd_other _ _ e]
        have e3 : i ≠ s.m := fun e4 => e (by rw [← e2, e4]; exact (upd_same _ _ _))
        exact (h.opn v hv).2 ⟨i, by omega, by rw [← e2]; exact (upd_other _ _ e3).symm⟩
  · have h3 := cnt_set (p := fun j => decide (s.f j = 0)) (q := fun j => decide ((s.find t nx0 L).f j = 0)) t (by simp [hf]) (by
      have : (s.find t nx0 L).f t = s.c + 1 := upd_same _ _ _
      simp [this]) (fun j hj => by
      have : (s.find t nx0 L).f j = s.f j := upd_other _ _ hj
      simp [this]) n ht
    have h4 := h.cnt
    show s.c + 1 + _ = n
    omega
  · intro u v hu hv
    exact h.same u v (done_find hf hu) (done_find hf hv)
  · exact h.frame.trans (hk.below h.frame.size (fun x hx => by have := h.mem.sx_ge hx; omega))

theorem Run.resKept (hP : Places H gN gB gA) (h : Run wF H n gN gB gA sp deg A w s O pval sval nv I bv fa la cyc) {S : Nat → Prop} (hk : Kept S w w2) (hS : ∀ x, S x → H + 4 ≤ x ∧ ¬ I x) : Res H n gN gB gA w2 s.num bv fa la cyc I := by
  obtain ⟨p1, p2, p3, p4, p5, p6, p7, p8, p9⟩ := hP
  exact h.res.kept hk (fun h3 => by have := hS _ h3; omega) (fun h3 => by have := hS _ h3; omega) (fun h3 => by have := hS _ h3; omega) (fun h3 => by have := hS _ h3; omega) (fun q hq h3 => (hS q h3).2 hq)

/-- A file has been looked at. -/
theorem Run.looked (hP : Places H gN gB gA) (hH : wF.heap.size ≤ H) (h : Run wF H n gN gB gA sp deg A w s O pval sval nv I bv fa la cyc) {t l : Nat} {nx0 : Nat → List Nat} {nv' : Nat → Value} (hd : 0 < s.d) (hf : s.f t ≠ 0) (hedge : t ∈ adjOf deg A (s.pa (s.d - 1)))
    (h1 : ∀ i, i < s.d → ∀ u, u ∈ s.nx i → (i = s.d - 1 ∧ u = t) ∨ u ∈ nx0 i) (h2 : ∀ i, i < s.d → ∀ u, u ∈ nx0 i → u ∈ s.nx i)
    (hl1 : l ≤ s.low (s.pa (s.d - 1))) (hl2 : s.Open t → l ≤ s.f t) (hl3 : l = s.low (s.pa (s.d - 1)) ∨ (s.Open t ∧ l = s.f t))
    (hM : Mem H n sp w2 (s.look l nx0) O pval sval nv' I) (hk : Kept (fun b => b = H + 6 ∨ sval.ownBlock = some b) w w2) :
    Run wF H n gN gB gA sp deg A w2 (s.look l nx0) O pval sval nv' I bv fa la cyc := by
  have hS : ∀ x, (x = H + 6 ∨ sval.ownBlock = some x) → H + 4 ≤ x ∧ ¬ I x := fun x hx => by
    rcases hx with hx | hx
    · exact ⟨by omega, fun hi => by have := h.mem.imm x hi; omega⟩
    · have := h.mem.slt hx
      exact ⟨by omega, fun hi => (h.mem.imm x hi).2.2.2 hx⟩
  have hr := h.resKept hP hk hS
  exact ⟨h.inv.look hd hf hedge h1 h2 hl1 hl2 hl3, hM, hr, h.opn, h.cnt, h.same, h.frame.trans (hk.below h.frame.size (fun x hx => by have := hS x hx; omega))⟩

/-- A step goes; its set is not whole. -/
theorem Run.popped (hP : Places H gN gB gA) (hH : wF.heap.size ≤ H) (h : Run wF H n gN gB gA sp deg A w s O pval sval nv I bv fa la cyc) {e : Nat} {sval' : Value} (he : s.d = e + 1) (hnx : s.nx e = []) (hlow : s.low (s.pa e) < s.f (s.pa e))
    (hM : Mem H n sp w2 s.pop O pval sval' nv I) (hk : Kept (fun b => b = H + 6 ∨ b = H + 11) w w2) :
    Run wF H n gN gB gA sp deg A w2 s.pop O pval sval' nv I bv fa la cyc := by
  have hS : ∀ x, (x = H + 6 ∨ x = H + 11) → H + 4 ≤ x ∧ ¬ I x := fun x hx => ⟨by omega, fun hi => by have := h.mem.imm x hi; omega⟩
  have hr := h.resKept hP hk hS
  exact ⟨h.inv.pop he hnx hlow, hM, hr, h.opn, h.cnt, h.same, h.frame.trans (hk.below h.frame.size (fun x hx => by have := hS x hx; omega))⟩

/-- A set is whole. -/
theorem Run.shutted (hP : Places H gN gB gA) (hH : wF.heap.size ≤ H) (h : Run wF H n gN gB gA sp deg A w s O pval sval nv I bv fa la cyc) (hadj : ∀ v u, v < n → u ∈ adjOf deg A v → u < n) {e k : Nat} {pval' sval' v0 : Value} {I' : Nat → Prop} {fa' la' : Nat → Int} {cyc' : Value} (he : s.d = e + 1) (hnx : s.nx e = []) (hlow : s.low (s.pa e) = s.f (s.pa e)) (hk : k < s.m) (hop : s.op k = s.pa e)
    (hM : Mem H n sp w2 (s.shut k (setTo s.num (fun j => s.op (k + j)) (fun j => s.fin + j) (s.m - k))) (setTo O (fun j => s.op (k + j)) (fun _ => false) (s.m - k)) pval' sval' nv I')
    (hR : Res H n gN gB gA w2 (setTo s.num (fun j => s.op (k + j)) (fun j => s.fin + j) (s.m - k)) (setTo bv (fun j => s.op (k + j)) (fun _ => v0) (s.m - k)) fa' la' cyc' I') (hfr : Below wF.heap.size wF w2) :
    Run wF H n gN gB gA sp deg A w2 (s.shut k (setTo s.num (fun j => s.op (k + j)) (fun j => s.fin + j) (s.m - k))) (setTo O (fun j => s.op (k + j)) (fun _ => false) (s.m - k)) pval' sval' nv I' (setTo bv (fun j => s.op (k + j)) (fun _ => v0) (s.m - k)) fa' la' cyc' := by
  have opinj : ∀ i j, i < s.m → j < s.m → s.op i = s.op j → i = j := fun i j hi hj e2 => by
    rcases Nat.lt_trichotomy i j with h3 | h3 | h3
    · have := h.inv.opm i j h3 hj; rw [e2] at this; omega
    · exact h3
    · have := h.inv.opm j i h3 hi; rw [e2] at this; omega
  have hnew : ∀ i, k ≤ i → i < s.m → setTo s.num (fun j => s.op (k + j)) (fun j => s.fin + j) (s.m - k) (s.op i) = s.fin + (i - k) := fun i h1 h2 => by
    have h3 := setTo_in s.num (fun j => s.op (k + j)) (fun j => s.fin + j) (s.m - k) (i - k) (by omega) (fun j a b e2 => by have := opinj (k + j) (k + (i - k)) (by omega) (by omega) e2; omega)
    rw [show k + (i - k) = i by omega] at h3
    exact h3
  have hold : ∀ {α : Type} (f : Nat → α) (g : Nat → α) (v : Nat), ¬ s.Open v → setTo f (fun j => s.op (k + j)) g (s.m - k) v = f v := fun f g v hv => setTo_out f _ g (s.m - k) v (fun j hj e2 => hv ⟨k + j, by omega, e2⟩)
  have hinv := h.inv.shut hadj (num' := setTo s.num (fun j => s.op (k + j)) (fun j => s.fin + j) (s.m - k)) he hnx hlow hk hop hnew (fun v hv => hold s.num _ v hv.2.2)
  refine ⟨hinv, hM, hR, ?_, h.cnt, ?_, hfr⟩
  · intro v hv
    by_cases hin : ∃ j, j < s.m - k ∧ s.op (k + j) = v
    · obtain ⟨j, hj, e2⟩ := hin
      have h3 := setTo_const O (fun j => s.op (k + j)) false (s.m - k) j hj
      rw [← e2, h3]
      constructor
      · intro h4; cases h4
      · rintro ⟨i, hi, e3⟩
        have hi' : i < k := hi
        have := opinj i (k + j) (by omega) (by omega) e3
        omega
    · rw [setTo_out O _ _ _ v (fun j hj e2 => hin ⟨j, hj, e2⟩), h.opn v hv]
      constructor
      · rintro ⟨i, hi, e2⟩
        refine ⟨i, show i < k from ?_, e2⟩
        rcases Nat.lt_or_ge i k with h3 | h3
        · exact h3
        · exact absurd ⟨i - k, by omega, by rw [show k + (i - k) = i by omega]; exact e2⟩ hin
      · rintro ⟨i, hi, e2⟩
        have hi' : i < k := hi
        exact ⟨i, by omega, e2⟩
  · -- all of one set share one list
    have split : ∀ v, (s.shut k (setTo s.num (fun j => s.op (k + j)) (fun j => s.fin + j) (s.m - k))).Done n v → (s.Done n v ∧ setTo s.num (fun j => s.op (k + j)) (fun j => s.fin + j) (s.m - k) v < s.fin ∧ setTo bv (fun j => s.op (k + j)) (fun _ => v0) (s.m - k) v = bv v) ∨ (s.fin ≤ setTo s.num (fun j => s.op (k + j)) (fun j => s.fin + j) (s.m - k) v ∧ setTo bv (fun j => s.op (k + j)) (fun _ => v0) (s.m - k) v = v0) := by
      rintro v ⟨a, b, c⟩
      by_cases hin : ∃ j, j < s.m - k ∧ s.op (k + j) = v
      · obtain ⟨j, hj, e2⟩ := hin
        right
        have h3 := hnew (k + j) (by omega) (by omega)
        have h4 := setTo_const bv (fun j => s.op (k + j)) v0 (s.m - k) j hj
        rw [e2] at h3 h4
        exact ⟨by rw [h3]; omega, h4⟩
      · left
        have hno : ¬ s.Open v := by
          rintro ⟨i, hi, e2⟩
          rcases Nat.lt_or_ge i k with h3 | h3
          · exact c ⟨i, h3, e2⟩
          · exact hin ⟨i - k, by omega, by rw [show k + (i - k) = i by omega]; exact e2⟩
        have hd : s.Done n v := ⟨a, b, hno⟩
        have := h.inv.d1 v hd
        refine ⟨hd, ?_, hold bv _ v hno⟩
        rw [hold s.num _ v hno]
        omega
    intro u v hu hv hh
    have hh' : (if setTo s.num (fun j => s.op (k + j)) (fun j => s.fin + j) (s.m - k) u < s.fin then s.hi u else s.fin + (s.m - k)) = (if setTo s.num (fun j => s.op (k + j)) (fun j => s.fin + j) (s.m - k) v < s.fin then s.hi v else s.fin + (s.m - k)) := hh
    rcases split u hu with ⟨a, b, c⟩ | ⟨b, c⟩
    · rcases split v hv with ⟨a', b', c'⟩ | ⟨b', c'⟩
      · rw [if_pos b, if_pos b'] at hh'
        rw [c, c']
        exact h.same u v a a' hh'
      · rw [if_pos b, if_neg (by omega)] at hh'
        have := (h.inv.d1 u a).2.2
        omega
    · rcases split v hv with ⟨a', b', c'⟩ | ⟨b', c'⟩
      · rw [if_neg (by omega), if_pos b'] at hh'
        have := (h.inv.d1 v a').2.2
        omega
      · rw [c, c']

/-! ### What is still to be looked at -/
theorem NextAt.cons {w : World} {I : Nat → Prop} {sp : Nat → Nat} {v : Value} {t : Nat} {rest : List Nat} (h : NextAt w I sp v (t :: rest)) : ∃ q o c, v = .slice (some ⟨q, o, none⟩) (rest.length + 1) c ∧ rest.length + 1 ≤ c ∧ w.cell? ⟨q, o, none⟩ = some (.pointer (some ⟨sp t, 0, none⟩)) ∧ NextAt w I sp (.slice (some ⟨q, o + 1, none⟩) rest.length (c - 1)) rest := by
  rcases h with ⟨_, h⟩ | ⟨q, o, c, hv, hc, hI, hk⟩
  · cases h
  · have hl : (t :: rest).length = rest.length + 1 := rfl
    rw [hl] at hv hc hk
    refine ⟨q, o, c, hv, hc, ?_, .inr ⟨q, o + 1, c - 1, rfl, by omega, hI, fun k hk2 => ?_⟩⟩
    · exact hk 0 (by omega)
    · have := hk (k + 1) (by omega)
      rw [show o + 1 + k = o + (k + 1) by omega, this]
      simp

theorem NextAt.nil {w : World} {I : Nat → Prop} {sp : Nat → Nat} {v : Value} (h : NextAt w I sp v []) : ∃ a c, v = .slice a 0 c := by
  rcases h with ⟨hv, _⟩ | ⟨q, o, c, hv, _⟩
  · exact ⟨_, _, hv⟩
  · exact ⟨_, _, hv⟩

theorem upd_id {α : Type} (f : Nat → α) (i : Nat) : upd f i (f i) = f := by
  funext j
  by_cases e : j = i
  · rw [e, upd_same]
  · rw [upd_other _ _ e]

/-- Nothing of it is written. -/
theorem Mem.still (h : Mem H n sp w s O pval sval nv I) (hk : Kept noS w w2) : Mem H n sp w2 s O pval sval nv I := by
  have hz := hk.size
  exact ⟨hk.cell h.fv (fun h => h), hk.row h.fr (fun h => h), hk.cell h.lv (fun h => h), hk.row h.lr (fun h => h), hk.cell h.ov (fun h => h), hk.row h.or (fun h => h), hk.row h.cr (fun h => h), hk.row h.pr (fun h => h), hk.owns h.po (fun _ _ h => h), hk.row h.sr (fun h => h), hk.owns h.so (fun _ _ h => h), fun i hi => (h.nx i hi).kept (fun _ h => h) (fun q hq => hk.block q (h.imm q hq).2.1 (fun h => h)), h.sep, fun q hq => by
    obtain ⟨a, b, c, d⟩ := h.imm q hq
    exact ⟨a, by omega, c, d⟩⟩

theorem Run.still (h : Run wF H n gN gB gA sp deg A w s O pval sval nv I bv fa la cyc) (hk : Kept noS w w2) : Run wF H n gN gB gA sp deg A w2 s O pval sval nv I bv fa la cyc :=
  ⟨h.inv, h.mem.still hk, h.res.kept hk (fun h => h) (fun h => h) (fun h => h) (fun h => h) (fun _ _ h => h), h.opn, h.cnt, h.same, h.frame.trans (hk.below h.frame.size (fun x hx => hx.elim))⟩

/-- As 'next[1:]' writes it. -/
theorem NextAt.tail {w : World} {I : Nat → Prop} {sp : Nat → Nat} {v : Value} {t : Nat} {rest : List Nat} (h : NextAt w I sp v (t :: rest)) : ∃ q o c, v = .slice (some ⟨q, o, none⟩) (rest.length + 1) c ∧ rest.length + 1 ≤ c ∧ w.cell? ⟨q, o, none⟩ = some (.pointer (some ⟨sp t, 0, none⟩)) ∧ NextAt w I sp (.slice (if c = 1 then some ⟨q, o, none⟩ else some ⟨q, o + 1, none⟩) rest.length (c - 1)) rest := by
  obtain ⟨q, o, c, hv, hc, h1, h2⟩ := h.cons
  refine ⟨q, o, c, hv, hc, h1, ?_⟩
  by_cases e : c = 1
  · rw [if_pos e]
    have hI : I q := by
      rcases h with ⟨h3, _⟩ | ⟨q', o', c', h3, _, h4, _⟩
      · rw [hv] at h3; cases h3
      · rw [hv] at h3
        injection h3 with h5
        injection h5 with h6
        injection h6 with h7
        rw [h7]; exact h4
    have hl : rest.length = 0 := by omega
    exact .inr ⟨q, o, c - 1, rfl, by omega, hI, fun k hk => by omega⟩
  · rw [if_neg e]; exact h2

theorem neq_same42 (w : World) (a : Addr) : (binOp .neq 42 (.pointer (some a)) (.pointer (some a))).run Try.prog w = .ok (.bool false) w := by
  obtain ⟨t, ht, hs⟩ := Option.map_eq_some_iff.1 info70
  have h : ∀ d : Nat, (Op.equalIn (d + 1) 42 (.pointer (some a)) (.pointer (some a))).run Try.prog w = .ok true w := fun d => by
    simp [Op.equalIn, run_underlying Try.underlying42, sizeOf, typeInfo, ht, run_sameAddr_same]
  simp only [binOp]
  simp [Op.equal, Op.maxDepth, h 9999]

theorem Files.neq_other (h : Files w n sp fp mp N deg ip A) {i j : Nat} (hi : i < n) (hj : j < n) (hne : i ≠ j) :
    (binOp .neq 42 (.pointer (some ⟨sp i, 0, none⟩)) (.pointer (some ⟨sp j, 0, none⟩))).run Try.prog w = .ok (.bool true) w := by
  obtain ⟨t, ht, hs⟩ := Option.map_eq_some_iff.1 info70
  obtain ⟨ci, hci⟩ := h.src i hi
  obtain ⟨cj, hcj⟩ := h.src j hj
  have hz : t.size ≠ 0 := by rw [hs]; decide
  have h : ∀ d : Nat, (Op.equalIn (d + 1) 42 (.pointer (some ⟨sp i, 0, none⟩)) (.pointer (some ⟨sp j, 0, none⟩))).run Try.prog w = .ok false w := fun d => by
    simp [Op.equalIn, run_underlying Try.underlying42, sizeOf, typeInfo, ht, hz, run_sameAddr_other w (a := ⟨sp i, 0, none⟩) (b := ⟨sp j, 0, none⟩) (fun e => hne (h.spInj i j hi hj (congrArg Addr.block e))) hci hcj]
  simp only [binOp]
  simp [Op.equal, Op.maxDepth, h 9999]

/-- Room for the set's numbers. -/
theorem Run.shut_room (h : Run wF H n gN gB gA sp deg A w s O pval sval nv I bv fa la cyc) (hadj : ∀ v u, v < n → u ∈ adjOf deg A v → u < n) {e k : Nat} (he : s.d = e + 1) (hnx : s.nx e = []) (hlow : s.low (s.pa e) = s.f (s.pa e)) (hk : k < s.m) (hop : s.op k = s.pa e) : s.fin + (s.m - k) ≤ n ∧ sumTo (fun j => deg (s.op (k + j))) (s.m - k) ≤ sumTo deg n := by
  have opinj : ∀ i j, i < s.m → j < s.m → s.op i = s.op j → i = j := fun i j hi hj e2 => by
    rcases Nat.lt_trichotomy i j with h3 | h3 | h3
    · have := h.inv.opm i j h3 hj; rw [e2] at this; omega
    · exact h3
    · have := h.inv.opm j i h3 hi; rw [e2] at this; omega
  have hnew : ∀ i, k ≤ i → i < s.m → setTo s.num (fun j => s.op (k + j)) (fun j => s.fin + j) (s.m - k) (s.op i) = s.fin + (i - k) := fun i h1 h2 => by
    have h3 := setTo_in s.num (fun j => s.op (k + j)) (fun j => s.fin + j) (s.m - k) (i - k) (by omega) (fun j a b e2 => by have := opinj (k + j) (k + (i - k)) (by omega) (by omega) e2; omega)
    rw [show k + (i - k) = i by omega] at h3
    exact h3
  have hinv := h.inv.shut hadj (num' := setTo s.num (fun j => s.op (k + j)) (fun j => s.fin + j) (s.m - k)) he hnx hlow hk hop hnew (fun v hv => setTo_out _ _ _ _ v (fun j hj e2 => hv.2.2 ⟨k + j, by omega, e2⟩))
  exact ⟨hinv.fin_le, sumTo_part deg (s.m - k) (fun j => s.op (k + j)) n (fun i hi => (h.inv.opv (k + i) (by omega)).1) (fun i j hi hj e2 => by have := opinj (k + i) (k + j) (by omega) (by omega) e2; omega)⟩

/-- The memory looks at part of the state alone. -/
theorem Mem.alike {s s' : St} (h : Mem H n sp w s O pval sval nv I) (e1 : s'.f = s.f) (e2 : s'.low = s.low) (e3 : s'.op = s.op) (e4 : s'.m = s.m) (e5 : s'.pa = s.pa) (e6 : s'.nx = s.nx) (e7 : s'.d = s.d) (e8 : s'.c = s.c) : Mem H n sp w s' O pval sval nv I := by
  obtain ⟨f, low, op, m, pa, nx, d, c, fin, num, lo, hi⟩ := s
  obtain ⟨f', low', op', m', pa', nx', d', c', fin', num', lo', hi'⟩ := s'
  dsimp only at e1 e2 e3 e4 e5 e6 e7 e8
  subst e1 e2 e3 e4 e5 e6 e7 e8
  exact ⟨h.fv, h.fr, h.lv, h.lr, h.ov, h.or, h.cr, h.pr, h.po, h.sr, h.so, h.nx, h.sep, h.imm⟩

theorem sf_ge' (hP : Places H gN gB gA) {x : Nat} (hx : Sf H gN gB gA x) : H ≤ x ∧ x ≤ H + 8 := by
  obtain ⟨p1, p2, p3, p4, p5, p6, p7, p8, p9⟩ := hP
  unfold Sf at hx
  omega

/-- A set is shut: all put together. -/
theorem Run.shutE {w3 : World} (hP : Places H gN gB gA) (hH : wF.heap.size ≤ H) (h : Run wF H n gN gB gA sp deg A w s O pval sval nv I bv fa la cyc) (hadj : ∀ v u, v < n → u ∈ adjOf deg A v → u < n) {e k pb pcap : Nat} {sval' v0 : Value} {I' : Nat → Prop} {fa' la' : Nat → Int} {cyc' : Value} (he : s.d = e + 1) (hnx : s.nx e = []) (hlow : s.low (s.pa e) = s.f (s.pa e)) (hk : k < s.m) (hop : s.op k = s.pa e)
    (hpv : pval = .slice (some ⟨pb, 0, none⟩) s.m pcap) (hMd : Mem H n sp w2 { s with d := e, low := s.lowUp e } O pval sval' nv I) (hfr : Below wF.heap.size wF w2)
    (hR3 : Res H n gN gB gA w3 (setTo s.num (fun j => s.op (k + j)) (fun j => s.fin + j) (s.m - k)) (setTo bv (fun j => s.op (k + j)) (fun _ => v0) (s.m - k)) fa' la' cyc' I') (hO3 : w3.rowIs (H + 8) 4 n (fun i => .bool (setTo O (fun j => s.op (k + j)) (fun _ => false) (s.m - k) i))) (hJ1 : ∀ q, I q → I' q) (hJ2 : ∀ q, I' q → I q ∨ w2.heap.size ≤ q) (hk3 : Kept (Sf H gN gB gA) w2 w3) :
    ∃ O1 pval1 sval1 nv1 I1 bv1 fa1 la1 cyc1, Run wF H n gN gB gA sp deg A (w3.setCell ⟨H + 10, 0, none⟩ (.slice (some ⟨pb, 0, none⟩) k pcap)) (s.shut k (setTo s.num (fun j => s.op (k + j)) (fun j => s.fin + j) (s.m - k))) O1 pval1 sval1 nv1 I1 bv1 fa1 la1 cyc1 := by
  have hM3 := hMd.finished hP hk3 hO3 hJ1 hJ2 hR3.jj
  obtain ⟨hM4, hk4⟩ := hM3.popOpen (k := k) (show k ≤ s.m by omega) hpv
  have hpq := hP
  obtain ⟨p1, p2, p3, p4, p5, p6, p7, p8, p9⟩ := hpq
  have hR4 := hR3.kept hk4 (by omega) (by omega) (by omega) (by omega) (fun q hq hqs => by have := hR3.jj q hq; omega)
  have hfr3 : Below wF.heap.size wF w3 := hfr.trans (hk3.below hfr.size (fun x hx => by have h5 := (sf_ge' hP hx); omega))
  have hfr4 := hfr3.trans (hk4.below hfr3.size (fun x hx => by omega))
  have e7 : s.d - 1 = e := by omega
  exact ⟨_, _, _, _, _, _, _, _, _, h.shutted hP hH hadj he hnx hlow hk hop (hM4.alike rfl (show s.lowUp (s.d - 1) = s.lowUp e by rw [e7]) rfl rfl rfl rfl e7 rfl) hR4 hfr4⟩
end Go.Proofs.Qxb6613158a
