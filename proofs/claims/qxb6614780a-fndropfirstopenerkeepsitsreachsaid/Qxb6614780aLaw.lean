/-
  The plain law: what the gates' state is behind a drop, gate by gate; and what the last loop reads.
-/
import Derived.Test.Qxb6614780aBuild
namespace Go.Proofs.Qxb6614780a
open Go.RowKit

theorem opn_sh (r : Option (Int × ByteArray)) (s : GS) (i j : Nat) : (opn r s i).sh j = (s.sh j || j == i) := by
  unfold opn
  by_cases h : s.sh i = true
  · rw [if_pos h]
    by_cases e : j = i
    · subst e; simp [h]
    · simp [e]
  · rw [if_neg h]
    by_cases e : j = i
    · subst e; simp [upd]
    · simp [upd, e]
theorem opens_sh (r : Option (Int × ByteArray)) (l : List Nat) : ∀ (s : GS) (j : Nat), (opens r s l).sh j = (s.sh j || l.contains j) := by
  induction l with
  | nil => intro s j; simp [opens]
  | cons i l ih => intro s j; rw [opens_cons, ih, opn_sh, List.contains_cons, Bool.or_assoc]

theorem opn_none (s : GS) (i : Nat) : (opn none s i).ln = s.ln ∧ (opn none s i).be = s.be := by
  unfold opn
  split <;> exact ⟨rfl, rfl⟩
theorem opens_none (l : List Nat) : ∀ (s : GS), (opens none s l).ln = s.ln ∧ (opens none s l).be = s.be := by
  induction l with
  | nil => intro s; exact ⟨rfl, rfl⟩
  | cons i l ih => intro s; rw [opens_cons]; exact ⟨(ih _).1.trans (opn_none s i).1, (ih _).2.trans (opn_none s i).2⟩

theorem opn_some (p : Int × ByteArray) (s : GS) (i j : Nat) : (opn (some p) s i).ln j = (if s.sh j then s.ln j else if j == i then p.1 else s.ln j) ∧ (opn (some p) s i).be j = (if s.sh j then s.be j else if j == i then p.2 else s.be j) := by
  unfold opn
  by_cases h : s.sh i = true
  · rw [if_pos h]
    by_cases e : j = i
    · subst e; simp [h]
    · simp [e]
  · rw [if_neg h]
    by_cases e : j = i
    · subst e; simp [upd, h]
    · simp [upd, e]
theorem opens_some (p : Int × ByteArray) (l : List Nat) : ∀ (s : GS) (j : Nat), (opens (some p) s l).ln j = (if s.sh j then s.ln j else if l.contains j then p.1 else s.ln j) ∧ (opens (some p) s l).be j = (if s.sh j then s.be j else if l.contains j then p.2 else s.be j) := by
  induction l with
  | nil => intro s j; simp [opens]
  | cons i l ih =>
    intro s j
    rw [opens_cons, (ih _ j).1, (ih _ j).2, opn_sh, (opn_some p s i j).1, (opn_some p s i j).2, List.contains_cons]
    cases h1 : s.sh j <;> cases h2 : (j == i) <;> cases h3 : l.contains j <;> simp

theorem contains_congr {l l' : List Nat} (h : ∀ x, x ∈ l' ↔ x ∈ l) (j : Nat) : l'.contains j = l.contains j := by
  rw [Bool.eq_iff_iff]; simp [h]

/-- What the last loop reads. -/
structure FinSt (w : World) (lb eb ub n : Nat) (che chu : Nat → Nat) (s : GS) (mbs : List (Nat × List Nat)) : Prop where
  lnk : IsLinking w lb eb ub n
  ended : Gates w eb n che initGS
  undone : Gates w ub n chu s
  mark : ∀ p ∈ mbs, ∃ c, w.heap[p.1]? = some (.cells c 4 (0, 0)) ∧ Marks c n p.2

section
variable {w w' : World} {lb eb ub n : Nat} {che chu : Nat → Nat} {s : GS} {mbs : List (Nat × List Nat)}
theorem FinSt.same (h : FinSt w lb eb ub n che chu s mbs) (e : w'.heap = w.heap) : FinSt w' lb eb ub n che chu s mbs := by
  refine ⟨h.lnk.of_block (by rw [e]), h.ended.of_blocks (by rw [e]) (fun _ _ => by rw [e]), h.undone.of_blocks (by rw [e]) (fun _ _ => by rw [e]), fun p hp => ?_⟩
  obtain ⟨c, hc, hm⟩ := h.mark p hp
  exact ⟨c, by rw [e]; exact hc, hm⟩
theorem FinSt.mcell (h : FinSt w lb eb ub n che chu s mbs) {mb : Nat} {l : List Nat} (hp : (mb, l) ∈ mbs) {i : Nat} (hi : i < n) : w.cell? ⟨mb, i, none⟩ = some (.bool (l.contains i)) := by
  obtain ⟨c, hc, hm⟩ := h.mark _ hp
  simp only at hc hm
  simp only [World.cell?, hc]
  exact hm.2 i hi
theorem FinSt.ecell (h : FinSt w lb eb ub n che chu s mbs) {i : Nat} (hi : i < n) : w.cell? ⟨eb, i * 4 + 1, none⟩ = some (.int .u32 0) := h.ended.c1 hi
end

theorem Rows2.mono {w : World} {ao : Option Addr} {B B' b off len : Nat} {A : Nat → Option Addr} {L C JB JO : Nat → Nat} {Z : Nat → Nat → Int} (h : Rows2 w ao B b off len A L C JB JO Z) (hB : B ≤ B') : Rows2 w ao B' b off len A L C JB JO Z :=
  ⟨h.addr, fun k hk => ⟨Nat.lt_of_lt_of_le (h.outer k hk).1 hB, (h.outer k hk).2⟩, fun k hk hl => ⟨(h.inner k hk hl).1, Nat.lt_of_lt_of_le (h.inner k hk hl).2.1 hB, (h.inner k hk hl).2.2⟩, h.small⟩

/-- The linking stands in wx, made since w; only its undo gates are written from here on. -/
structure Rdy (w wx : World) (lb eb ub n : Nat) (che chu : Nat → Nat) (s : GS) (mbs : List (Nat × List Nat)) : Prop where
  fin : FinSt wx lb eb ub n che chu s mbs
  ne : eb ≠ ub
  sep : ∀ i j, i < n → j < n → che i ≠ chu j
  hub : w.heap.size ≤ ub
  hchu : ∀ i, i < n → w.heap.size ≤ chu i
  below : Below w.heap.size w wx

section
variable {w wx w' : World} {lb eb ub n : Nat} {che chu : Nat → Nat} {s s' : GS} {mbs : List (Nat × List Nat)}
theorem Rdy.drop (h : Rdy w wx lb eb ub n che chu s mbs) (hg : Gates w' ub n chu s') (k : Kept (GS.Wr ub n chu) wx w') : Rdy w w' lb eb ub n che chu s' mbs := by
  refine ⟨⟨k.at h.fin.lnk (wr_not_cells h.fin.undone h.fin.lnk (by decide)), h.fin.ended.kept k ?_ ?_, hg, fun p hp => ?_⟩, h.ne, h.sep, h.hub, h.hchu, h.below.trans (k.below h.below.size ?_)⟩
  · rintro (e | ⟨i, hi, e⟩)
    · exact h.ne e
    · obtain ⟨c, hc, _, _⟩ := h.fin.ended.row
      have := h.fin.undone.chan i hi
      rw [← e, hc] at this; simp at this
  · rintro i hi (e | ⟨j, hj, e⟩)
    · obtain ⟨c, hc, _, _⟩ := h.fin.undone.row
      have := h.fin.ended.chan i hi
      rw [e, hc] at this; simp at this
    · exact h.sep i j hi hj e
  · obtain ⟨c, hc, hm⟩ := h.fin.mark p hp
    exact ⟨c, k.at hc (wr_not_cells h.fin.undone hc (by decide)), hm⟩
  · rintro j hj (e | ⟨i, hi, e⟩)
    · have := h.hub; omega
    · have := h.hchu i hi; omega
theorem Rdy.same (h : Rdy w wx lb eb ub n che chu s mbs) (k : Kept (fun _ => False) wx w') : Rdy w w' lb eb ub n che chu s mbs := by
  refine ⟨⟨k.at h.fin.lnk (fun h => h), h.fin.ended.kept k (fun h => h) (fun _ _ h => h), h.fin.undone.kept k (fun h => h) (fun _ _ h => h), fun p hp => ?_⟩, h.ne, h.sep, h.hub, h.hchu, h.below.trans (k.below h.below.size (fun _ _ h => h))⟩
  obtain ⟨c, hc, hm⟩ := h.fin.mark p hp
  exact ⟨c, k.at hc (fun h => h), hm⟩
theorem Rdy.alloc (h : Rdy w wx lb eb ub n che chu s mbs) (o : Obj) : Rdy w (wx.alloc o) lb eb ub n che chu s mbs := h.same ((Kept.refl _ _).alloc o)
theorem Rdy.drew (h : Rdy w wx lb eb ub n che chu s mbs) : Rdy w wx.drew lb eb ub n che chu s mbs := h.same (Kept.refl _ _).drew
theorem Rdy.drewN (h : Rdy w wx lb eb ub n che chu s mbs) (m : Nat) : Rdy w (wx.drewN m) lb eb ub n che chu s mbs := by
  induction m with
  | zero => exact h
  | succ m ih => exact ih.drew
theorem Rdy.rows {ao : Option Addr} {b off len : Nat} {A : Nat → Option Addr} {L C JB JO : Nat → Nat} {Z : Nat → Nat → Int} (h : Rdy w wx lb eb ub n che chu s mbs) (hr : Rows2 w ao w.heap.size b off len A L C JB JO Z) : Rows2 wx ao wx.heap.size b off len A L C JB JO Z :=
  (hr.below h.below).mono h.below.size
end

/-- Behind ZZnewLinking. -/
theorem Lnk.rdy {w W w' : World} {eb ub n : Nat} {mbs : List (Nat × List Nat)} (h : Lnk W w' eb ub n n n) (hb : Below w.heap.size w W) (hm : ∀ p ∈ mbs, ∃ c, W.heap[p.1]? = some (.cells c 4 (0, 0)) ∧ Marks c n p.2) :
    Rdy w w' (W.heap.size + 2) eb ub n (fun i => W.heap.size + 3 + 2 * i) (fun i => W.heap.size + 4 + 2 * i) initGS mbs := by
  have hs := hb.size
  refine ⟨⟨h.lnk, h.ended.all fun i j _ _ e => by omega, h.undone.all fun i j _ _ e => by omega, fun p hp => ?_⟩, h.ne, fun i j _ _ => by omega, by have := h.ub_ge; omega, fun i _ => by omega, hb.trans (h.below.mono hs)⟩
  obtain ⟨c, hc, hmm⟩ := hm p hp
  exact ⟨c, (h.below.block _ (lt_of_heap hc)).trans hc, hmm⟩

end Go.Proofs.Qxb6614780a
