import Derived.Test.YbulkbjxkRows
import Derived.Deep.OwnRows
import Derived.WalkKit
namespace Go.Proofs.Ybulkbjxk
open Go.RowKit

theorem hid {p : Prop} (h : p) : Hid p := h

/-- The lines of the first k rosters. -/
def tot (L : Nat → Nat) : Nat → Nat
  | 0 => 0
  | k + 1 => tot L k + L k

theorem tot_mono (L : Nat → Nat) {i k : Nat} (h : i ≤ k) : tot L i ≤ tot L k := by
  induction k with
  | zero =>
    have : i = 0 := by omega
    subst this
    exact Nat.le_refl _
  | succ k ih =>
    by_cases e : i = k + 1
    · subst e; exact Nat.le_refl _
    · exact Nat.le_trans (ih (by omega)) (Nat.le_add_right _ _)

theorem le_tot (L : Nat → Nat) {i k : Nat} (h : i < k) : L i ≤ tot L k :=
  Nat.le_trans (Nat.le_add_left _ _) (tot_mono L (show i + 1 ≤ k from h))

/-- The argument as it lies in memory: block b from off on holds len slices; slice i has L i strings. -/
structure Ros (w : World) (B b off len : Nat) (A : Nat → Option Addr) (L C IB OI : Nat → Nat) (S : Nat → Nat → ByteArray) : Prop where
  hb : b < B
  top : ∀ i, i < len → w.cell? ⟨b, off + i, none⟩ = some (.slice (A i) (L i) (C i))
  adr : ∀ i, i < len → 0 < L i → A i = some ⟨IB i, OI i, none⟩ ∧ IB i < B
  str : ∀ i, i < len → ∀ j, j < L i → w.cell? ⟨IB i, OI i + j, none⟩ = some (.string (S i j))

theorem Ros.below {w w' : World} {B b off len : Nat} {A : Nat → Option Addr} {L C IB OI : Nat → Nat} {S : Nat → Nat → ByteArray} (h : Ros w B b off len A L C IB OI S) (hb : Below B w w') : Ros w' B b off len A L C IB OI S where
  hb := h.hb
  top i hi := (hb.cell (by exact h.hb)).trans (h.top i hi)
  adr := h.adr
  str i hi j hj := (hb.cell (by exact (h.adr i hi (by omega)).2)).trans (h.str i hi j hj)

theorem Ros.mono {w : World} {B B' b off len : Nat} {A : Nat → Option Addr} {L C IB OI : Nat → Nat} {S : Nat → Nat → ByteArray} (h : Ros w B b off len A L C IB OI S) (hB : B ≤ B') : Ros w B' b off len A L C IB OI S where
  hb := Nat.lt_of_lt_of_le h.hb hB
  top := h.top
  adr i hi hl := ⟨(h.adr i hi hl).1, Nat.lt_of_lt_of_le (h.adr i hi hl).2 hB⟩
  str := h.str

/-- A roster's lines, of four cells each, the name first. -/
def Gr (w : World) (g n : Nat) (s : Nat → ByteArray) : Prop := ∃ f, w.rowIs g 60 (n * 4) f ∧ ∀ j, j < n → f (j * 4) = .string (s j)
/-- A part, whose roster is block g. -/
def Pt (w : World) (q g n : Nat) : Prop := ∃ f, w.rowIs q 50 16 f ∧ f 6 = .slice (some ⟨g, 0, none⟩) n n
/-- A plan, whose parts are v. -/
def Pl (w : World) (p : Nat) (v : Value) : Prop := ∃ f, w.rowIs p 30 5 f ∧ f 0 = v

theorem Gr.of_block {w w' : World} {g n : Nat} {s : Nat → ByteArray} (h : Gr w g n s) (e : w'.heap[g]? = w.heap[g]?) : Gr w' g n s := by
  obtain ⟨f, h1, h2⟩ := h
  exact ⟨f, h1.of_block e, h2⟩
theorem Pt.of_block {w w' : World} {q g n : Nat} (h : Pt w q g n) (e : w'.heap[q]? = w.heap[q]?) : Pt w' q g n := by
  obtain ⟨f, h1, h2⟩ := h
  exact ⟨f, h1.of_block e, h2⟩
theorem Pl.of_block {w w' : World} {p : Nat} {v : Value} (h : Pl w p v) (e : w'.heap[p]? = w.heap[p]?) : Pl w' p v := by
  obtain ⟨f, h1, h2⟩ := h
  exact ⟨f, h1.of_block e, h2⟩
theorem Pl.cell {w : World} {p : Nat} {v : Value} (h : Pl w p v) : w.cell? ⟨p, 0, none⟩ = some v := by
  obtain ⟨f, h1, h2⟩ := h
  rw [← h2]; exact h1.cell (by decide)
theorem Pt.cell {w : World} {q g n : Nat} (h : Pt w q g n) : w.cell? ⟨q, 6, none⟩ = some (.slice (some ⟨g, 0, none⟩) n n) := by
  obtain ⟨f, h1, h2⟩ := h
  rw [← h2]; exact h1.cell (by decide)
theorem Gr.cell {w : World} {g n : Nat} {s : Nat → ByteArray} (h : Gr w g n s) {j : Nat} (hj : j < n) : w.cell? ⟨g, j * 4, none⟩ = some (.string (s j)) := by
  obtain ⟨f, h1, h2⟩ := h
  rw [← h2 j hj]; exact h1.cell (by omega)
theorem Pl.lt {w : World} {p : Nat} {v : Value} (h : Pl w p v) : p < w.heap.size := h.elim fun _ h => h.1.lt
theorem Pt.lt {w : World} {q g n : Nat} (h : Pt w q g n) : q < w.heap.size := h.elim fun _ h => h.1.lt
theorem Gr.lt {w : World} {g n : Nat} {s : Nat → ByteArray} (h : Gr w g n s) : g < w.heap.size := h.elim fun _ h => h.1.lt

/-- What zzs3039abuild has built behind k rounds. -/
structure Built (w : World) (p len k : Nat) (L : Nat → Nat) (S : Nat → Nat → ByteArray) : Prop where
  plan : Pl w p (.slice (some ⟨p + 1, 0, none⟩) len len)
  parts : ∃ f, w.rowIs (p + 1) 35 len f ∧ ∀ i, i < k → f i = .pointer (some ⟨p + 3 + 2 * i, 0, none⟩)
  pt : ∀ i, i < k → Pt w (p + 3 + 2 * i) (p + 2 + 2 * i) (L i)
  gr : ∀ i, i < k → Gr w (p + 2 + 2 * i) (L i) (S i)

theorem Built.keep {w w' : World} {p len k : Nat} {L : Nat → Nat} {S : Nat → Nat → ByteArray} (h : Built w p len k L S) (e : ∀ b, p ≤ b → b < p + 2 + 2 * k → w'.heap[b]? = w.heap[b]?) : Built w' p len k L S where
  plan := h.plan.of_block (e _ (by omega) (by omega))
  parts := by
    obtain ⟨f, h1, h2⟩ := h.parts
    exact ⟨f, h1.of_block (e _ (by omega) (by omega)), h2⟩
  pt i hi := (h.pt i hi).of_block (e _ (by omega) (by omega))
  gr i hi := (h.gr i hi).of_block (e _ (by omega) (by omega))

theorem Built.below {w w' : World} {p len k B : Nat} {L : Nat → Nat} {S : Nat → Nat → ByteArray} (h : Built w p len k L S) (hb : Below B w w') (hB : p + 2 + 2 * k ≤ B) : Built w' p len k L S :=
  h.keep fun b _ hb' => hb.block b (by omega)

theorem Built.part {w : World} {p len k : Nat} {L : Nat → Nat} {S : Nat → Nat → ByteArray} (h : Built w p len k L S) (hk : k ≤ len) {i : Nat} (hi : i < k) : w.cell? ⟨p + 1, i, none⟩ = some (.pointer (some ⟨p + 3 + 2 * i, 0, none⟩)) := by
  obtain ⟨f, h1, h2⟩ := h.parts
  rw [← h2 i hi]; exact h1.cell (by omega)

/-- One line more. -/
theorem gr_step {wi : World} {g n m : Nat} {f : Nat → Value} {s : Nat → ByteArray} (hrow : wi.rowIs g 60 (n * 4) f) (hf : ∀ j, j < m → f (j * 4) = .string (s j)) (v1 v2 v3 : Value) :
    ∃ f', ((((wi.setCell ⟨g, m * 4, none⟩ (.string (s m))).setCell ⟨g, m * 4 + 1, none⟩ v1).setCell ⟨g, m * 4 + 2, none⟩ v2).setCell ⟨g, m * 4 + 3, none⟩ v3).rowIs g 60 (n * 4) f' ∧ ∀ j, j < m + 1 → f' (j * 4) = .string (s j) := by
  refine ⟨_, (((hrow.set _ _).set _ _).set _ _).set _ _, fun j hj => ?_⟩
  rw [if_neg (by omega), if_neg (by omega), if_neg (by omega)]
  by_cases e : j = m
  · subst e; rw [if_pos rfl]
  · rw [if_neg (by omega)]; exact hf j (by omega)

/-- One part more: its roster's block and its own, laid in that order. -/
theorem built_step {w w1 : World} {p len k : Nat} {L : Nat → Nat} {S : Nat → Nat → ByteArray} (h : Built w p len k L S) (hsz : w.heap.size = p + 2 + 2 * k) (hk : k < len)
    (hb : Below w.heap.size w w1) (hs1 : w1.heap.size = w.heap.size + 1) (hg : Gr w1 w.heap.size (L k) (S k)) (c : Array Value) (hc : c.size = 16) (h6 : c[6]? = some (.slice (some ⟨w.heap.size, 0, none⟩) (L k) (L k))) :
    Built (((w1.setCell ⟨p + 1, k, none⟩ (.pointer (some ⟨w1.heap.size, 0, none⟩))).alloc (.cells c 50))) p len (k + 1) L S := by
  have hold := h.below hb (by omega)
  have hq : p + 3 + 2 * k = w1.heap.size := by omega
  have hgk : p + 2 + 2 * k = w.heap.size := by omega
  have hsize : (w1.setCell ⟨p + 1, k, none⟩ (.pointer (some ⟨w1.heap.size, 0, none⟩))).heap.size = w1.heap.size := by simp
  have e : ∀ b, b ≠ p + 1 → b < w1.heap.size → ((w1.setCell ⟨p + 1, k, none⟩ (.pointer (some ⟨w1.heap.size, 0, none⟩))).alloc (.cells c 50)).heap[b]? = w1.heap[b]? := fun b h1 h2 => by
    rw [Below.heap_alloc _ _ _ (by rw [hsize]; exact h2), Below.heap_setCell _ _ _ _ (by exact h1)]
  refine ⟨hold.plan.of_block (e _ (by omega) (by omega)), ?_, fun i hi => ?_, fun i hi => ?_⟩
  · obtain ⟨f, h1, h2⟩ := hold.parts
    refine ⟨_, (h1.set k _).alloc _, fun i hi => ?_⟩
    by_cases hik : i = k
    · subst hik; rw [if_pos rfl, hq]
    · rw [if_neg hik]; exact h2 i (by omega)
  · by_cases hik : i = k
    · subst hik
      rw [hq, hgk]
      have hr := World.rowIs_alloc (w1.setCell ⟨p + 1, i, none⟩ (.pointer (some ⟨w1.heap.size, 0, none⟩))) c 50 (fun j => (c[j]?).getD undef) (fun j hj => by simp [hj])
      rw [hsize, hc] at hr
      exact ⟨_, hr, by simp [h6]⟩
    · exact (hold.pt i (by omega)).of_block (e _ (by omega) (by omega))
  · by_cases hik : i = k
    · subst hik
      rw [hgk]
      exact hg.of_block (e _ (by omega) (by omega))
    · exact (hold.gr i (by omega)).of_block (e _ (by omega) (by omega))

end Go.Proofs.Ybulkbjxk
