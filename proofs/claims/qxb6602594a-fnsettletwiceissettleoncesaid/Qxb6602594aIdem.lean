import Derived.Test.Qxb6602594aModel
namespace Go.Proofs.Qxb6602594a
open Go.RowKit Go.Maps

def slotOf (s : Ls) (p : Nat) : Nat := (atInt s.idx (s.order.getD p ByteArray.empty)).toNat

/-- the last place before k that leads to j -/
def lastP (sl : Nat → Nat) : Nat → Nat → Option Nat
  | 0, _ => none
  | k + 1, j => if sl k = j then some k else lastP sl k j

theorem lastP_congr {sl sl' : Nat → Nat} {k : Nat} (h : ∀ p, p < k → sl p = sl' p) (j : Nat) : lastP sl k j = lastP sl' k j := by
  induction k with
  | zero => rfl
  | succ k ih => rw [lastP, lastP, h k (by omega), ih (fun p hp => h p (by omega))]

structure Settled (s : Ls) (k : Nat) : Prop where
  all : ∀ p, p < k → Maps.has s.idx (key (s.order.getD p ByteArray.empty)) = true
  pos : ∀ (j : Nat) (a : App) (p : Nat), s.apps[j]? = some a → lastP (slotOf s) k j = some p → a.pos = (p : Int)

theorem settled_inner {l : Nat} {H : Hi} (hm : IsMap (H.ls l).idx) (k : Nat) : IsMap ((inner l H k).ls l).idx ∧ Settled ((inner l H k).ls l) k := by
  induction k with
  | zero => exact ⟨hm, fun p hp => by omega, fun j a p _ h => by cases h⟩
  | succ k ih =>
    obtain ⟨im, S⟩ := ih
    have ho : ((inner l H k).ls l).order = (H.ls l).order := inner_order l H k l
    rw [inner, ← ho]
    generalize inner l H k = G at *
    generalize hv : (G.ls l).order.getD k ByteArray.empty = v
    unfold step
    by_cases hh : Maps.has (G.ls l).idx (key v) = true
    · rw [if_pos hh]
      simp only [if_true]
      refine ⟨im, ?_, ?_⟩
      · intro p hp
        by_cases e : p = k
        · subst e; show Maps.has _ (key ((G.ls l).order.getD p _)) = true; rw [hv]; exact hh
        · exact S.all p (by omega)
      · intro j a p ha hl
        simp only [List.getElem?_modify] at ha
        have hs : slotOf { order := (G.ls l).order, apps := (G.ls l).apps.modify (atInt (G.ls l).idx v).toNat (fun a => { a with pos := k }), idx := (G.ls l).idx } = slotOf (G.ls l) := rfl
        rw [hs, lastP] at hl
        have hsk : slotOf (G.ls l) k = (atInt (G.ls l).idx v).toNat := by unfold slotOf; rw [hv]
        rw [hsk] at hl
        by_cases e : (atInt (G.ls l).idx v).toNat = j
        · rw [if_pos e] at hl
          obtain ⟨b, hb, hb'⟩ := Option.map_eq_some_iff.1 ha
          cases hl
          rw [if_pos e] at hb'
          subst hb'
          rfl
        · rw [if_neg e] at hl
          obtain ⟨b, hb, hb'⟩ := Option.map_eq_some_iff.1 ha
          rw [if_neg e] at hb'
          subst hb'
          exact S.pos j b p hb hl
    · rw [if_neg hh]
      simp only [if_true]
      have hne : ∀ p, p < k → (G.ls l).order.getD p ByteArray.empty ≠ v := by
        intro p hp e
        have := S.all p hp
        rw [e] at this
        exact hh this
      refine ⟨im.put _ _, ?_, ?_⟩
      · intro p hp
        show Maps.has _ (key ((G.ls l).order.getD p _)) = true
        by_cases e : p = k
        · subst e; rw [hv]; exact has_put_same im (isKey v) _
        · rw [has_put_other (fun e' => hne p (by omega) (key_inj e'))]
          exact S.all p (by omega)
      · intro j a p ha hl
        rw [lastP] at hl
        have hsk : slotOf { order := (G.ls l).order, apps := (G.ls l).apps ++ [⟨G.txs.length, v, 0, -1, -1, k⟩], idx := (G.ls l).idx.put (key v) (.lit (.int .i32 (G.ls l).apps.length)) } k = (G.ls l).apps.length := by
          unfold slotOf
          show (atInt _ ((G.ls l).order.getD k _)).toNat = _
          rw [hv, atInt_put_same im]
          simp
        have hsp : ∀ q, q < k → slotOf { order := (G.ls l).order, apps := (G.ls l).apps ++ [⟨G.txs.length, v, 0, -1, -1, k⟩], idx := (G.ls l).idx.put (key v) (.lit (.int .i32 (G.ls l).apps.length)) } q = slotOf (G.ls l) q := by
          intro q hq
          unfold slotOf
          show (atInt _ ((G.ls l).order.getD q _)).toNat = _
          rw [atInt_put_other (hne q hq)]
        rw [hsk, lastP_congr hsp] at hl
        by_cases e : (G.ls l).apps.length = j
        · rw [if_pos e] at hl
          cases hl
          subst e
          simp only [List.getElem?_append_right (Nat.le_refl _), Nat.sub_self, List.getElem?_cons_zero, Option.some.injEq] at ha
          subst ha
          rfl
        · rw [if_neg e] at hl
          refine S.pos j a p ?_ hl
          have hj : j < ((G.ls l).apps ++ [(⟨G.txs.length, v, 0, -1, -1, k⟩ : App)]).length := (List.getElem?_eq_some_iff.1 ha).1
          rw [List.length_append, List.length_singleton] at hj
          rw [List.getElem?_append_left (by omega)] at ha
          exact ha

def appsK (s : Ls) (k : Nat) : List App := s.apps.mapIdx (fun j a => match lastP (slotOf s) k j with | none => a | some p => { a with pos := p })

theorem appsK_done {s : Ls} {k : Nat} (h : Settled s k) : appsK s k = s.apps := by
  apply List.ext_getElem?
  intro j
  unfold appsK
  rw [List.getElem?_mapIdx]
  cases ha : s.apps[j]? with
  | none => rfl
  | some a =>
    simp only [Option.map_some, Option.some.injEq]
    cases hl : lastP (slotOf s) k j with
    | none => rfl
    | some p => have := h.pos j a p ha hl; show ({ a with pos := (p : Int) } : App) = a; rw [← this]

theorem inner_again {l : Nat} {H : Hi} {len : Nat} (h : ∀ p, p < len → Maps.has (H.ls l).idx (key ((H.ls l).order.getD p ByteArray.empty)) = true) (k : Nat) (hk : k ≤ len) :
    inner l H k = { H with ls := fun i => if i = l then { H.ls l with apps := appsK (H.ls l) k } else H.ls i } := by
  induction k with
  | zero =>
    have e : appsK (H.ls l) 0 = (H.ls l).apps := appsK_done ⟨fun p hp => by omega, fun j a p _ hl => by cases hl⟩
    rw [e]
    show H = _
    cases H with
    | mk t n ls =>
      congr
      funext i
      by_cases hi : i = l
      · subst hi; simp
      · simp [hi]
  | succ k ih =>
    rw [inner, ih (by omega)]
    unfold step
    simp only [if_true]
    rw [if_pos (h k (by omega))]
    congr
    funext i
    by_cases hi : i = l
    · subst hi
      simp only [if_true]
      congr
      apply List.ext_getElem?
      intro j
      unfold appsK
      rw [List.getElem?_modify, List.getElem?_mapIdx, List.getElem?_mapIdx]
      have hs : (atInt (H.ls i).idx ((H.ls i).order.getD k ByteArray.empty)).toNat = slotOf (H.ls i) k := rfl
      rw [hs]
      cases ha : (H.ls i).apps[j]? with
      | none => rfl
      | some a =>
        simp only [Option.map_some, lastP]
        by_cases e : slotOf (H.ls i) k = j
        · simp only [e, if_true]
          cases lastP (slotOf (H.ls i)) k j <;> rfl
        · simp only [e, if_false]
          cases lastP (slotOf (H.ls i)) k j <;> rfl
    · simp [hi]

theorem inner_settled {l : Nat} {H : Hi} (h : Settled (H.ls l) (H.ls l).order.length) : inner l H (H.ls l).order.length = H := by
  rw [inner_again h.all _ (Nat.le_refl _), appsK_done h]
  cases H with
  | mk t n ls =>
    congr
    funext i
    by_cases hi : i = l
    · subst hi; simp
    · simp [hi]

theorem outer_keeps {H : Hi} {l : Nat} (d : Nat) : (outer H (l + 1 + d)).ls l = (outer H (l + 1)).ls l := by
  induction d with
  | zero => rfl
  | succ d ih => rw [← Nat.add_assoc, outer, inner_other _ _ _ (by omega), ih]

theorem outer_twice {H : Hi} {m : Nat} (h : Good H m) : outer (outer H H.n) H.n = outer H H.n := by
  have S : ∀ l, l < H.n → Settled ((outer H H.n).ls l) ((outer H H.n).ls l).order.length := by
    intro l hl
    obtain ⟨d, hd⟩ : ∃ d, H.n = l + 1 + d := ⟨H.n - (l + 1), by omega⟩
    have e : (outer H H.n).ls l = (outer H (l + 1)).ls l := by rw [hd]; exact outer_keeps d
    rw [e, outer_order, outer]
    exact (settled_inner ((h.outer l).map l) _).2
  have key : ∀ l, l ≤ H.n → outer (outer H H.n) l = outer H H.n := by
    intro l
    induction l with
    | zero => intro _; rfl
    | succ l ih =>
      intro hl
      rw [outer, ih (by omega)]
      exact inner_settled (S l (by omega))
  exact key H.n (Nat.le_refl _)
end Go.Proofs.Qxb6602594a
