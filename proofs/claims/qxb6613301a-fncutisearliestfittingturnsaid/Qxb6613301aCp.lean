/-
  The plain law: what cut answers is what the model answers.
-/
import Derived.Test.Qxb6613301aCc
import Derived.Test.Qxb6613301aCk
import Derived.Test.Qxb6613301aCn
set_option linter.unusedVariables false
set_option linter.unusedSimpArgs false
namespace Go.Proofs.Qxb6613301a
open Go.RowKit

theorem pid_gid (bs : List Bk) (k : Nat) : pid bs k = gid (bs.map Bk.it) k := by
  simp only [pid, gid, List.getElem?_map, Option.map_map]; rfl

theorem keyL_ne {a b : ByteArray} (h : a.toList ≠ b.toList) : keyL a ≠ keyL b := by
  intro e
  simp only [keyL, Lit.string.injEq] at e
  rw [ByteArray.toList_eq, ByteArray.toList_eq] at h
  exact h e
theorem keyL_eq {a b : ByteArray} (h : a.toList = b.toList) : keyL a = keyL b := by
  simp only [keyL, Lit.string.injEq]
  rwa [ByteArray.toList_eq, ByteArray.toList_eq] at h

theorem key_ok (s : ByteArray) : WideAt.IsKeyLit (keyL s) := by simp [keyL, WideAt.IsKeyLit]

theorem firstD_isMap (bs : List Bk) (k : Nat) : Maps.IsMap (firstD bs k) := by
  induction k with
  | zero => exact ⟨_, rfl⟩
  | succ k ih =>
    simp only [firstD]
    split
    · exact ih
    · split
      · exact ih
      · obtain ⟨es, he⟩ := ih
        rw [he]
        exact ⟨_, rfl⟩

/-- k blocks walked: the key of x is there just where one of them bears it, and it leads to the first. -/
theorem firstD_spec (bs : List Bk) (s : ByteArray) (hs : s.toList ≠ []) (k : Nat) :
    (Maps.has (firstD bs k) (keyL s) = true ∧ ∃ f, f < k ∧ (pid bs f).toList = s.toList ∧ (∀ i, i < k → (pid bs i).toList = s.toList → f ≤ i) ∧ (firstD bs k).atKey (keyL s) (.lit (.int .i64 0)) = .lit (.int .i64 (f : Int))) ∨
    (Maps.has (firstD bs k) (keyL s) = false ∧ ∀ i, i < k → (pid bs i).toList ≠ s.toList) := by
  induction k with
  | zero => exact Or.inr ⟨rfl, fun i hi => by omega⟩
  | succ k ih =>
    simp only [firstD]
    by_cases e : (pid bs k).toList = s.toList
    · rw [if_neg (by rw [e]; exact hs), keyL_eq e]
      rcases ih with ⟨h1, f, h2, h3, h4, h5⟩ | ⟨h1, h2⟩
      · rw [if_pos h1]
        exact Or.inl ⟨h1, f, by omega, h3, fun i hi hp => by
          by_cases hik : i < k
          · exact h4 i hik hp
          · omega, h5⟩
      · rw [if_neg (by rw [h1]; simp)]
        refine Or.inl ⟨Maps.has_put_same (firstD_isMap bs k) (key_ok s) _, k, by omega, e, fun i hi hp => ?_, Maps.atKey_put_same (firstD_isMap bs k) (key_ok s) _ _⟩
        by_cases hik : i < k
        · exact absurd hp (h2 i hik)
        · omega
    · have key : ∀ D : DataW Unit, (D = firstD bs k ∨ D = (firstD bs k).put (keyL (pid bs k)) (.lit (.int .i64 (k : Int)))) → Maps.has D (keyL s) = Maps.has (firstD bs k) (keyL s) ∧ D.atKey (keyL s) (.lit (.int .i64 0)) = (firstD bs k).atKey (keyL s) (.lit (.int .i64 0)) := by
        rintro D (rfl | rfl)
        · exact ⟨rfl, rfl⟩
        · exact ⟨Maps.has_put_other (keyL_ne (a := s) (b := pid bs k) (fun h => e h.symm)) _, Maps.atKey_put_other (keyL_ne (a := s) (b := pid bs k) (fun h => e h.symm)) _ _⟩
      obtain ⟨D, hD, hDe⟩ : ∃ D, (if (pid bs k).toList = [] then firstD bs k else if Maps.has (firstD bs k) (keyL (pid bs k)) = true then firstD bs k else (firstD bs k).put (keyL (pid bs k)) (.lit (.int .i64 (k : Int)))) = D ∧ (D = firstD bs k ∨ D = (firstD bs k).put (keyL (pid bs k)) (.lit (.int .i64 (k : Int)))) := by
        refine ⟨_, rfl, ?_⟩
        split
        · exact Or.inl rfl
        · split
          · exact Or.inl rfl
          · exact Or.inr rfl
      rw [hD]
      obtain ⟨k1, k2⟩ := key D hDe
      rw [k1, k2]
      rcases ih with ⟨h1, f, h2, h3, h4, h5⟩ | ⟨h1, h2⟩
      · exact Or.inl ⟨h1, f, by omega, h3, fun i hi hp => by
          by_cases hik : i < k
          · exact h4 i hik hp
          · have : i = k := by omega
            subst this
            exact absurd hp e, h5⟩
      · exact Or.inr ⟨h1, fun i hi => by
          by_cases hik : i < k
          · exact h2 i hik
          · have : i = k := by omega
            subst this
            exact e⟩

theorem firstN_spec (bs : List Bk) (x : Nat) (hx : x < bs.length) (hne : gl (bs.map Bk.it) x ≠ []) :
    ∃ f : Nat, firstN bs x = f ∧ f ≤ x ∧ gl (bs.map Bk.it) f = gl (bs.map Bk.it) x ∧ ∀ i, i < bs.length → gl (bs.map Bk.it) i = gl (bs.map Bk.it) x → f ≤ i := by
  simp only [gl, ← pid_gid] at hne ⊢
  rcases firstD_spec bs (pid bs x) hne bs.length with ⟨_, f, h2, h3, h4, h5⟩ | ⟨_, h2⟩
  · exact ⟨f, by rw [firstN, h5], h4 x hx rfl, h3, h4⟩
  · exact absurd rfl (h2 x hx)

/-- The state behind m blocks, walked from the back. -/
def WInv (its : List It) (bud : Int) (m : Nat) (s : St) : Prop :=
  s.size = suf its (its.length - m) ∧
  s.reach ≤ its.length ∧
  (∀ j, its.length - m ≤ j → j < its.length → gl its j ≠ [] → ∀ i, gl its i = gl its j → i < its.length → s.reach ≤ i) ∧
  (s.reach = its.length ∨ ∃ i j : Nat, s.reach = i ∧ its.length - m ≤ j ∧ j < its.length ∧ gl its j ≠ [] ∧ gl its i = gl its j) ∧
  ((s.found = false ∧ s.kept = 0 ∧ ∀ c, its.length - m ≤ c → c < its.length → ¬ ts its c) ∨
   (s.found = true ∧ ∃ k l : Nat, s.kept = k ∧ its.length - m ≤ k ∧ k ≤ l ∧ l < its.length ∧ ts its k ∧ ts its l ∧ (∀ c, ts its c → c < its.length → c ≤ l) ∧ (∀ c, its.length - m ≤ c → ts its c → c < its.length → k ≤ c) ∧ (k < l → (suf its k : Int) ≤ bud)))

theorem suf_mono (its : List It) {a b : Nat} (h : a ≤ b) : suf its b ≤ suf its a := by
  obtain ⟨d, rfl⟩ := Nat.exists_eq_add_of_le h
  clear h
  induction d with
  | zero => exact Nat.le_refl _
  | succ d ih =>
    refine Nat.le_trans ?_ ih
    by_cases hd : a + d < its.length
    · have := suf_at (its := its) (k := a + d) (t := its[a + d]) (by simp [hd])
      rw [show a + (d + 1) = a + d + 1 from by omega]; omega
    · unfold suf
      rw [List.drop_eq_nil_of_le (by omega)]
      simp

def mAns' (last best : Int) : Int := if last < 0 then 0 else if best < 0 then last else best

theorem wrap_nat (a b : Nat) (h : a + b ≤ 1048576) : wrap64 ((a : Int) + (b : Int)) = ((a + b : Nat) : Int) := by unfold wrap64; omega

theorem part_iff {its : List It} {m : Nat} {s : St} {bud : Int} {rc : Int} {at_ : Nat} (hat : at_ = its.length - (m + 1)) (hm : m < its.length)
    (h1 : ∀ j, at_ ≤ j → j < its.length → gl its j ≠ [] → ∀ i, gl its i = gl its j → i < its.length → rc ≤ i)
    (h2 : rc = its.length ∨ ∃ i j : Nat, rc = i ∧ at_ ≤ j ∧ j < its.length ∧ gl its j ≠ [] ∧ gl its i = gl its j) : rc < at_ ↔ part its at_ := by
  constructor
  · intro h
    rcases h2 with h2 | ⟨i, j, hi, hj, hjn, hne, he⟩
    · omega
    · exact ⟨i, j, by omega, hj, hjn, he, hne⟩
  · rintro ⟨i, j, hi, hj, hjn, he, hne⟩
    have := h1 j hj hjn hne i he (by omega)
    omega

/-- The reach behind one more block. -/
theorem reach_step {bs : List Bk} {m : Nat} {r : Int} (hm : m < bs.length) (hr0 : r ≤ (bs.map Bk.it).length)
    (h1 : ∀ j, (bs.map Bk.it).length - m ≤ j → j < (bs.map Bk.it).length → gl (bs.map Bk.it) j ≠ [] → ∀ i, gl (bs.map Bk.it) i = gl (bs.map Bk.it) j → i < (bs.map Bk.it).length → r ≤ i)
    (h2 : r = (bs.map Bk.it).length ∨ ∃ i j : Nat, r = i ∧ (bs.map Bk.it).length - m ≤ j ∧ j < (bs.map Bk.it).length ∧ gl (bs.map Bk.it) j ≠ [] ∧ gl (bs.map Bk.it) i = gl (bs.map Bk.it) j)
    {rc : Int} (hrc : rc = if (pid bs (bs.length - 1 - m)).toList = [] then r else min r (firstN bs (bs.length - 1 - m))) :
    rc ≤ (bs.map Bk.it).length ∧
    (∀ j, (bs.map Bk.it).length - (m + 1) ≤ j → j < (bs.map Bk.it).length → gl (bs.map Bk.it) j ≠ [] → ∀ i, gl (bs.map Bk.it) i = gl (bs.map Bk.it) j → i < (bs.map Bk.it).length → rc ≤ i) ∧
    (rc = (bs.map Bk.it).length ∨ ∃ i j : Nat, rc = i ∧ (bs.map Bk.it).length - (m + 1) ≤ j ∧ j < (bs.map Bk.it).length ∧ gl (bs.map Bk.it) j ≠ [] ∧ gl (bs.map Bk.it) i = gl (bs.map Bk.it) j) := by
  have hlen : (bs.map Bk.it).length = bs.length := by simp
  have hg : (pid bs (bs.length - 1 - m)).toList = gl (bs.map Bk.it) (bs.length - 1 - m) := by rw [pid_gid]; rfl
  by_cases he : (pid bs (bs.length - 1 - m)).toList = []
  · rw [if_pos he] at hrc
    subst hrc
    refine ⟨hr0, fun j hj hjn hne i hi hin => ?_, ?_⟩
    · by_cases e : j = bs.length - 1 - m
      · subst e; exact absurd (hg.symm.trans he) hne
      · exact h1 j (by omega) hjn hne i hi hin
    · rcases h2 with h2 | ⟨i, j, a, b, c⟩
      · exact Or.inl h2
      · exact Or.inr ⟨i, j, a, by omega, c⟩
  · rw [if_neg he] at hrc
    rw [hg] at he
    obtain ⟨f, f1, f2, f3, f4⟩ := firstN_spec bs (bs.length - 1 - m) (by omega) he
    rw [f1] at hrc
    refine ⟨by omega, fun j hj hjn hne i hi hin => ?_, ?_⟩
    · by_cases e : j = bs.length - 1 - m
      · subst e; have := f4 i (by omega) hi; omega
      · have := h1 j (by omega) hjn hne i hi hin; omega
    · by_cases hrf : r ≤ f
      · rw [show rc = r from by omega]
        rcases h2 with h2 | ⟨i, j, a, b, c⟩
        · exact Or.inl h2
        · exact Or.inr ⟨i, j, a, by omega, c⟩
      · exact Or.inr ⟨f, bs.length - 1 - m, by omega, by omega, by omega, he, f3⟩

theorem wlk_inv (bs : List Bk) (bud : Int) (hsuf : ∀ k, suf (bs.map Bk.it) k ≤ 1048576) (hlen : bs.length ≤ 4096) : ∀ m, m ≤ bs.length → ∀ s, wlkF bs bud (down bs.length m) = some s → WInv (bs.map Bk.it) bud m s := by
  have hl : (bs.map Bk.it).length = bs.length := by simp
  intro m
  induction m with
  | zero =>
    intro _ s hs
    simp only [down, wlkF, List.foldl_nil, Option.some.injEq] at hs
    subst hs
    refine ⟨?_, ?_, fun j hj hjn => by omega, Or.inl (by simp), Or.inl ⟨rfl, rfl, fun c hc hcn => by omega⟩⟩
    · show (0 : Int) = _
      rw [Nat.sub_zero, suf_end]; rfl
    · simp
  | succ m ih =>
    intro hm s hs
    cases hw : wlkF bs bud (down bs.length m) with
    | none =>
      simp only [down, wlkF, List.foldl_append, List.foldl_cons, List.foldl_nil] at hs hw
      rw [hw] at hs
      cases hs
    | some s0 =>
      have hi := ih (by omega) s0 hw
      have hst : stp bs bud s0 (bs.length - 1 - m) = some s := by
        rw [down, wlkF_snoc _ _ _ _ _ hw] at hs
        exact hs
      obtain ⟨x, hx⟩ : ∃ x, x = bs.length - 1 - m := ⟨_, rfl⟩
      have hxx : (bs.map Bk.it).length - (m + 1) = x := by omega
      have hx1 : (bs.map Bk.it).length - m = x + 1 := by omega
      have hxl : x < bs.length := by omega
      have hml : m < (bs.map Bk.it).length := by omega
      have hm1 : m < bs.length := by omega
      rw [← hx] at hst
      obtain ⟨b, hb⟩ : ∃ b, bs[x]? = some b := ⟨bs[x]'hxl, by simp⟩
      have hbt : (bs.map Bk.it)[x]? = some b.it := by simp [hb]
      simp only [stp, hb, Option.map_some, Option.getD_some] at hst
      have hsf := suf_at hbt
      have hsfu := hsuf x
      have hle : suf (bs.map Bk.it) (x + 1) + b.it.raw.size ≤ 1048576 := by omega
      obtain ⟨a1, a0, a2, a3, a4⟩ := hi
      have hrs := reach_step (bs := bs) (m := m) hm1 a0 a2 a3 rfl
      rw [← hx] at hrs
      generalize (if (pid bs x).toList = [] then s0.reach else min s0.reach (firstN bs x)) = rc at hst hrs
      obtain ⟨r0, r1, r2⟩ := hrs
      rw [hxx] at r1 r2
      rw [hx1] at a1 a4
      have hsz : wrap64 (s0.size + (b.it.raw.size : Nat)) = (suf (bs.map Bk.it) x : Int) := by
        rw [a1, wrap_nat _ _ hle, hsf]
      rw [hsz] at hst
      have hpart := part_iff (s := s0) (bud := bud) (m := m) hxx.symm hml r1 r2
      have huser : usr (bs.map Bk.it) x = b.it.user := usr_at hbt
      have hts : ts (bs.map Bk.it) x ↔ (b.it.user = true ∧ ¬ rc < x) := by
        rw [ts, huser, hpart]
      unfold WInv
      rw [hxx]
      unfold stpF at hst
      by_cases ht : b.it.user = true ∧ ¬ rc < x
      · rw [if_pos ht] at hst
        have htx := hts.2 ht
        rcases a4 with ⟨f1, f2, f3⟩ | ⟨f1, k, l, g1, g2, g3, g4, g5, g6, g7, g8, g9⟩
        · rw [if_pos f1] at hst
          cases hst
          refine ⟨rfl, r0, r1, r2, Or.inr ⟨rfl, x, x, rfl, Nat.le_refl _, Nat.le_refl _, by omega, htx, htx, fun c hc hcn => ?_, fun c hc _ _ => hc, fun h => by omega⟩⟩
          by_cases e : x + 1 ≤ c
          · exact absurd hc (f3 c e hcn)
          · omega
        · rw [if_neg (by rw [f1]; simp)] at hst
          by_cases hz : (suf (bs.map Bk.it) x : Int) ≤ bud
          · rw [if_pos hz] at hst
            cases hst
            exact ⟨rfl, r0, r1, r2, Or.inr ⟨f1, x, l, rfl, Nat.le_refl _, by omega, g4, htx, g6, g7, fun c hc _ _ => hc, fun _ => hz⟩⟩
          · rw [if_neg hz] at hst
            cases hst
      · rw [if_neg ht] at hst
        have htx : ¬ ts (bs.map Bk.it) x := fun h => ht (hts.1 h)
        cases hst
        refine ⟨rfl, r0, r1, r2, ?_⟩
        rcases a4 with ⟨f1, f2, f3⟩ | ⟨f1, k, l, g1, g2, g3, g4, g5, g6, g7, g8, g9⟩
        · refine Or.inl ⟨f1, f2, fun c hc hcn => ?_⟩
          by_cases e : c = x
          · subst e; exact htx
          · exact f3 c (by omega) hcn
        · refine Or.inr ⟨f1, k, l, g1, by omega, g3, g4, g5, g6, g7, fun c hc hct hcn => ?_, g9⟩
          by_cases e : c = x
          · subst e; exact absurd hct htx
          · exact g8 c (by omega) hct hcn

theorem ans_unique (its : List It) (bud : Int) {last best : Int} (hm : MInv its bud its.length last best) {k l : Nat} (hkl : k ≤ l) (hl : l < its.length) (hk : ts its k) (hlt : ts its l)
    (hlast : ∀ c, ts its c → c < its.length → c ≤ l) (hfit : k < l → (suf its k : Int) ≤ bud) (hnf : ∀ c, ts its c → c < k → ¬ (suf its c : Int) ≤ bud) : (k : Int) = mAns' last best := by
  obtain ⟨h1, h2⟩ := hm
  have hl1 : last = l := by
    rcases h1 with ⟨_, h⟩ | ⟨l', e, a, b, c⟩
    · exact absurd hlt (h l hl)
    · have := hlast l' b a
      have := c l hl hlt
      omega
  unfold mAns'
  rw [if_neg (by omega)]
  rcases h2 with ⟨e, h⟩ | ⟨b, e, hb1, hb2, hb3, hb4⟩
  · rw [if_pos (by omega), hl1]
    have : ¬ k < l := fun hk' => h k (by omega) hk (hfit hk')
    omega
  · rw [if_neg (by omega), e]
    have h3 : ¬ b < k := fun hb => hnf b hb2 hb hb3
    have h4 : ¬ k < b := fun hb => by
      have hbl := hlast b hb2 hb1
      have := hb4 k (by omega) hk (hfit (by omega))
      omega
    omega

theorem stpF_none {u : Bool} {rc z kp bud : Int} {fd : Bool} {i : Nat} (h : stpF u rc z kp bud fd i = none) : fd = true ∧ ¬ z ≤ bud := by
  unfold stpF at h
  split at h
  · split at h
    · cases h
    · split at h
      · cases h
      · rename_i h1 h2 h3
        exact ⟨by simpa using h2, h3⟩
  · cases h

/-- THE PLAIN LAW. -/
theorem cut_model (bs : List Bk) (bud r last best : Int) (hsuf : ∀ k, suf (bs.map Bk.it) k ≤ 1048576) (hlen : bs.length ≤ 4096) (h : CutAns bs bud r) (hm : MInv (bs.map Bk.it) bud (bs.map Bk.it).length last best) : r = mAns' last best := by
  have hl : (bs.map Bk.it).length = bs.length := by simp
  rcases h with ⟨s, hs, rfl⟩ | ⟨m, s, hmn, hs, hst, rfl⟩
  · obtain ⟨_, _, _, _, a4⟩ := wlk_inv bs bud hsuf hlen bs.length (Nat.le_refl _) s hs
    rw [hl, Nat.sub_self] at a4
    rcases a4 with ⟨f1, f2, f3⟩ | ⟨f1, k, l, g1, g2, g3, g4, g5, g6, g7, g8, g9⟩
    · rw [f2]
      obtain ⟨h1, _⟩ := hm
      rcases h1 with ⟨e, _⟩ | ⟨l', e, a, b, c⟩
      · unfold mAns'
        rw [if_pos (by omega)]
      · exact absurd b (f3 l' (Nat.zero_le _) (by omega))
    · rw [g1]
      exact ans_unique _ bud hm g3 (by omega) g5 g6 (fun c hc hcn => g7 c hc (by omega)) g9 (fun c hc hck => by
        have := g8 c (Nat.zero_le _) hc (by omega)
        omega)
  · obtain ⟨x, hx⟩ : ∃ x, x = bs.length - 1 - m := ⟨_, rfl⟩
    have hxl : x < bs.length := by omega
    have hxx : (bs.map Bk.it).length - (m + 1) = x := by omega
    have hx1 : (bs.map Bk.it).length - m = x + 1 := by omega
    have hml : m < (bs.map Bk.it).length := by omega
    rw [← hx] at hst
    obtain ⟨b, hb⟩ : ∃ b, bs[x]? = some b := ⟨bs[x]'hxl, by simp⟩
    have hbt : (bs.map Bk.it)[x]? = some b.it := by simp [hb]
    have hsf := suf_at hbt
    have hsfu := hsuf x
    have hle : suf (bs.map Bk.it) (x + 1) + b.it.raw.size ≤ 1048576 := by omega
    obtain ⟨a1, _, _, _, a4⟩ := wlk_inv bs bud hsuf hlen m (by omega) s hs
    rw [hx1] at a1 a4
    simp only [stp, hb, Option.map_some, Option.getD_some] at hst
    rw [a1, wrap_nat _ _ hle, ← hsf] at hst
    have hz : s.found = true ∧ ¬ (suf (bs.map Bk.it) x : Int) ≤ bud := by
      exact stpF_none hst
    rcases a4 with ⟨f1, _⟩ | ⟨f1, k, l, g1, g2, g3, g4, g5, g6, g7, g8, g9⟩
    · rw [f1] at hz; exact absurd hz.1 (by simp)
    · rw [g1]
      refine ans_unique _ bud hm g3 (by omega) g5 g6 (fun c hc hcn => g7 c hc (by omega)) g9 (fun c hc hck => ?_)
      by_cases e : x + 1 ≤ c
      · have := g8 c e hc (by omega)
        omega
      · have := suf_mono (bs.map Bk.it) (a := c) (b := x) (by omega)
        have := hz.2
        omega

end Go.Proofs.Qxb6613301a
