/-
  zzCutModel, walked.
-/
import Derived.Test.Qxb6613301aCm
set_option linter.unusedVariables false
set_option linter.unusedSimpArgs false
namespace Go.Proofs.Qxb6613301a
open Go.RowKit

def gid (its : List It) (k : Nat) : ByteArray := (its[k]?.map It.paired).getD ⟨#[]⟩
def gl (its : List It) (k : Nat) : List UInt8 := (gid its k).toList
def suf (its : List It) (k : Nat) : Nat := ((its.drop k).map fun t => t.raw.size).sum
def usr (its : List It) (k : Nat) : Bool := (its[k]?.map It.user).getD false

theorem gid_at {its : List It} {k : Nat} {t : It} (h : its[k]? = some t) : gid its k = t.paired := by simp [gid, h]
theorem usr_at {its : List It} {k : Nat} {t : It} (h : its[k]? = some t) : usr its k = t.user := by simp [usr, h]
theorem suf_at {its : List It} {k : Nat} {t : It} (h : its[k]? = some t) : suf its k = suf its (k + 1) + t.raw.size := by
  unfold suf
  rw [List.drop_eq_getElem?_toList_append, h]
  simp; omega
theorem suf_end (its : List It) : suf its its.length = 0 := by simp [suf]

/-- f is the first carrier of j's id among the first m (j counted). -/
def FirstTo (its : List It) (j m f : Nat) : Prop := f ≤ j ∧ gl its f = gl its j ∧ ∀ i, i < m → gl its i = gl its j → f ≤ i
def LastTo (its : List It) (j m l : Nat) : Prop := j ≤ l ∧ l < its.length ∧ gl its l = gl its j ∧ ∀ i, i < m → gl its i = gl its j → i ≤ l
def Firsts (its : List It) (k : Nat) (xs : List Int) : Prop := ∀ j, j < k → ∃ f : Nat, xs[j]? = some (f : Int) ∧ (gl its j ≠ [] → FirstTo its j its.length f)
def Lasts (its : List It) (k : Nat) (ys : List Int) : Prop := ∀ j, j < k → ∃ l : Nat, ys[j]? = some (l : Int) ∧ (gl its j ≠ [] → LastTo its j its.length l)
def Sufs (its : List It) (r : Nat) (zs : List Int) : Prop := ∀ j, r ≤ j → j ≤ its.length → zs[j]? = some (suf its j : Int)
def Idss (its : List It) (k : Nat) (xs : List ByteArray) : Prop := ∀ j, j < k → xs[j]? = some (gid its j)

theorem Firsts.set {its : List It} {k : Nat} {xs : List Int} (h : Firsts its k xs) (hk : k < xs.length) (f : Nat) (hf : gl its k ≠ [] → FirstTo its k its.length f) : Firsts its (k + 1) (xs.set k (f : Int)) := by
  intro j hj
  by_cases e : j = k
  · subst e; exact ⟨f, by simp [hk], hf⟩
  · rw [List.getElem?_set_ne (by omega)]; exact h j (by omega)
theorem Lasts.set {its : List It} {k : Nat} {xs : List Int} (h : Lasts its k xs) (hk : k < xs.length) (f : Nat) (hf : gl its k ≠ [] → LastTo its k its.length f) : Lasts its (k + 1) (xs.set k (f : Int)) := by
  intro j hj
  by_cases e : j = k
  · subst e; exact ⟨f, by simp [hk], hf⟩
  · rw [List.getElem?_set_ne (by omega)]; exact h j (by omega)
theorem Idss.set {its : List It} {k : Nat} {xs : List ByteArray} (h : Idss its k xs) (hk : k < xs.length) : Idss its (k + 1) (xs.set k (gid its k)) := by
  intro j hj
  by_cases e : j = k
  · subst e; simp [hk]
  · rw [List.getElem?_set_ne (by omega)]; exact h j (by omega)
theorem Sufs.set {its : List It} {r : Nat} {zs : List Int} (h : Sufs its (r + 1) zs) (hk : r < zs.length) : Sufs its r (zs.set r (suf its r : Int)) := by
  intro j hj hn
  by_cases e : j = r
  · subst e; simp [hk]
  · rw [List.getElem?_set_ne (by omega)]; exact h j (by omega) hn

/-- A turn that starts at c parts a call from its output. -/
def part (its : List It) (c : Nat) : Prop := ∃ i j, i < c ∧ c ≤ j ∧ j < its.length ∧ gl its i = gl its j ∧ gl its j ≠ []
def ts (its : List It) (c : Nat) : Prop := usr its c = true ∧ ¬ part its c

def MInv (its : List It) (bud : Int) (c : Nat) (last best : Int) : Prop :=
  ((last = -1 ∧ ∀ i, i < c → ¬ ts its i) ∨ (∃ l : Nat, last = l ∧ l < c ∧ ts its l ∧ ∀ i, i < c → ts its i → i ≤ l)) ∧
  ((best = -1 ∧ ∀ i, i < c → ts its i → ¬ (suf its i : Int) ≤ bud) ∨ (∃ b : Nat, best = b ∧ b < c ∧ ts its b ∧ (suf its b : Int) ≤ bud ∧ ∀ i, i < c → ts its i → (suf its i : Int) ≤ bud → b ≤ i))

theorem MInv.skip {its : List It} {bud : Int} {c : Nat} {last best : Int} (h : MInv its bud c last best) (hc : ¬ ts its c) : MInv its bud (c + 1) last best := by
  have key : ∀ i, i < c + 1 → ts its i → i < c := fun i hi ht => by
    by_cases e : i = c
    · subst e; exact absurd ht hc
    · omega
  obtain ⟨h1, h2⟩ := h
  refine ⟨?_, ?_⟩
  · rcases h1 with ⟨a, b⟩ | ⟨l, a, b, d, e⟩
    · exact Or.inl ⟨a, fun i hi ht => b i (key i hi ht) ht⟩
    · exact Or.inr ⟨l, a, by omega, d, fun i hi ht => e i (key i hi ht) ht⟩
  · rcases h2 with ⟨a, b⟩ | ⟨l, a, b, d, f, e⟩
    · exact Or.inl ⟨a, fun i hi ht => b i (key i hi ht) ht⟩
    · exact Or.inr ⟨l, a, by omega, d, f, fun i hi ht => e i (key i hi ht) ht⟩
theorem MInv.take {its : List It} {bud : Int} {c : Nat} {last best : Int} (h : MInv its bud c last best) (hc : ts its c) :
    MInv its bud (c + 1) (c : Int) (if best < 0 ∧ (suf its c : Int) ≤ bud then (c : Int) else best) := by
  obtain ⟨h1, h2⟩ := h
  refine ⟨Or.inr ⟨c, rfl, by omega, hc, fun i hi _ => by omega⟩, ?_⟩
  rcases h2 with ⟨a, b⟩ | ⟨l, a, b, d, f, e⟩
  · by_cases hs : (suf its c : Int) ≤ bud
    · rw [if_pos ⟨by omega, hs⟩]
      refine Or.inr ⟨c, rfl, by omega, hc, hs, fun i hi ht hb => ?_⟩
      by_cases e : i < c
      · exact absurd hb (b i e ht)
      · omega
    · rw [if_neg (fun h => hs h.2)]
      refine Or.inl ⟨a, fun i hi ht => ?_⟩
      by_cases e : i = c
      · subst e; exact hs
      · exact b i (by omega) ht
  · rw [if_neg (fun h => by omega)]
    refine Or.inr ⟨l, a, by omega, d, f, fun i hi ht hb => ?_⟩
    by_cases e2 : i = c
    · omega
    · exact e i (by omega) ht hb

/-- The model's test at j for a turn at c. -/
def cnd (its : List It) (c : Nat) (f l : Nat) (j : Nat) : Prop := gl its j ≠ [] ∧ f < c ∧ c ≤ l

theorem part_of {its : List It} {c j f l : Nat} (hj : j < its.length) (hf : gl its j ≠ [] → FirstTo its j its.length f) (hl : gl its j ≠ [] → LastTo its j its.length l) (h : cnd its c f l j) : part its c := by
  obtain ⟨h0, h1, h2⟩ := h
  obtain ⟨a1, a2, a3⟩ := hf h0
  obtain ⟨b1, b2, b3, b4⟩ := hl h0
  exact ⟨f, l, h1, h2, b2, by rw [a2, b3], by rw [b3]; exact h0⟩
theorem not_part {its : List It} {c : Nat} {xs ys : List Int} (hF : Firsts its its.length xs) (hL : Lasts its its.length ys)
    (h : ∀ j, j < its.length → ∀ f l : Nat, xs[j]? = some (f : Int) → ys[j]? = some (l : Int) → ¬ cnd its c f l j) : ¬ part its c := by
  rintro ⟨i, j, hi, hj, hjn, he, hne⟩
  obtain ⟨f, f1, f2⟩ := hF j hjn
  obtain ⟨l, l1, l2⟩ := hL j hjn
  have g1 := f2 hne
  have g2 := l2 hne
  exact h j hjn f l f1 l1 ⟨hne, by have := g1.2.2 i (by omega) he; omega, by have := g2.1; omega⟩

end Go.Proofs.Qxb6613301a
