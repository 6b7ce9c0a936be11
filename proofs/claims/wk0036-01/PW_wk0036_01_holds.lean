import PyProof.Rows.All
import Wide.All
import OpenK.AllK
import Wide.FinOn
import Lean
import PySem.Challenge.RW_wk0036_01
set_option Elab.async false
local macro_rules | `(tactic| walk_at $s:str) => `(tactic| k_extra $s)
section
/-! The plain law: choosing in turn, and crossing out from the back. No program in sight. -/
namespace Mine
/-- the place of the least value of v in l (the first of such) -/
noncomputable def argmin (v : Nat → Int) : List Nat → Nat
  | [] => 0
  | [x] => x
  | x :: y :: l => let z := argmin v (y :: l); if v x ≤ v z then x else z
theorem argmin_mem {v : Nat → Int} : ∀ {l : List Nat}, l ≠ [] → argmin v l ∈ l
  | [], h => absurd rfl h
  | [x], _ => .head _
  | x :: y :: l, _ => by
    unfold argmin
    dsimp only
    split
    · exact .head _
    · exact .tail _ (argmin_mem (by simp))
theorem argmin_le {v : Nat → Int} : ∀ {l : List Nat}, ∀ y ∈ l, v (argmin v l) ≤ v y
  | [], y, h => nomatch h
  | [x], y, h => by cases List.mem_singleton.mp h; exact Int.le_refl _
  | x :: z :: l, y, h => by
    have ih := argmin_le (v := v) (l := z :: l)
    unfold argmin
    dsimp only
    split
    · rename_i hx
      rcases List.mem_cons.mp h with rfl | h
      · exact Int.le_refl _
      · exact Int.le_trans hx (ih y h)
    · rename_i hx
      rcases List.mem_cons.mp h with rfl | h
      · omega
      · exact ih y h
/-- v tells apart what l holds -/
noncomputable def Tells0 (v : Nat → Int) (l : List Nat) : Prop := ∀ x ∈ l, ∀ y ∈ l, v x = v y → x = y
theorem argmin_eq {v : Nat → Int} {l : List Nat} {x : Nat} (ha : Tells0 v l) (hx : x ∈ l) (h : ∀ y ∈ l, v x ≤ v y) : argmin v l = x := by
  have hm := argmin_mem (v := v) (l := l) (by intro e; rw [e] at hx; cases hx)
  exact ha _ hm _ hx (Int.le_antisymm (argmin_le x hx) (h _ hm))
theorem Tells0.erase {v : Nat → Int} {l : List Nat} {x : Nat} (ha : Tells0 v l) : Tells0 v (l.erase x) := fun a h b k e => ha a (List.mem_of_mem_erase h) b (List.mem_of_mem_erase k) e
/-- a good's worth in an end: a triple (goods of the first, worth to the first, worth to the second) -/
noncomputable abbrev Tri := Int × Int × Int
noncomputable def tadd (a b : Tri) : Tri := (a.1 + b.1, a.2.1 + b.2.1, a.2.2 + b.2.2)
theorem tadd_comm (a b : Tri) : tadd a b = tadd b a := by simp only [tadd]; ext <;> dsimp only <;> omega
theorem tadd_assoc (a b c : Tri) : tadd (tadd a b) c = tadd a (tadd b c) := by simp only [tadd]; ext <;> dsimp only <;> omega
theorem tadd_left (a b c : Tri) : tadd a (tadd b c) = tadd b (tadd a c) := by simp only [tadd]; ext <;> dsimp only <;> omega
section
variable (v : Nat → Nat → Int)
/-- what good g given to p (0, 1) adds; v p is p's worth -/
noncomputable def give (p g : Nat) : Tri := if p = 0 then (8 ^ g, v 0 g, 0) else (0, 0, v 1 g)
/-- the worth of an end to p -/
noncomputable def val (p : Nat) (t : Tri) : Int := if p = 0 then t.2.1 else t.2.2
/-- crossing out: T the turns from the last to the first -/
noncomputable def cross : List Nat → List Nat → Tri
  | [], _ => (0, 0, 0)
  | p :: T, l => let x := argmin (v (1 - p)) l; tadd (give v p x) (cross T (l.erase x))
theorem val_add (p : Nat) (a b : Tri) : val p (tadd a b) = val p a + val p b := by
  unfold val tadd; split <;> rfl
theorem val_give {p g : Nat} (hp : p < 2) : val p (give v p g) = v p g := by
  unfold val give
  rcases (by omega : p = 0 ∨ p = 1) with rfl | rfl <;> rfl
theorem val_give' {p g : Nat} (hp : p < 2) : val p (give v (1 - p) g) = 0 := by
  unfold val give
  rcases (by omega : p = 0 ∨ p = 1) with rfl | rfl <;> rfl
theorem cross_snoc_ge (m : Nat) (hm : m < 2) : ∀ (T l : List Nat) (h : Nat), (∀ p ∈ T, p < 2) → l.Nodup → l.length = T.length + 1 → Tells0 (v 0) l → Tells0 (v 1) l → h ∈ l →
    cross v (T ++ [m]) l = tadd (give v m h) (cross v T (l.erase h)) ∨ val m (tadd (give v m h) (cross v T (l.erase h))) < val m (cross v (T ++ [m]) l)
  | [], l, h, _, _, hl, _, _, hh => by
    match l, hl with
    | [x], _ =>
      cases List.mem_singleton.mp hh
      exact .inl rfl
  | p :: T, l, h, hT, hn, hl, a0, a1, hh => by
    have hp : p < 2 := hT p (.head _)
    have ap : Tells0 (v (1 - p)) l := by
      rcases (by omega : p = 0 ∨ p = 1) with rfl | rfl
      · exact a1
      · exact a0
    have hne : l ≠ [] := fun e => by rw [e] at hh; cases hh
    have hx := argmin_mem (v := v (1 - p)) hne
    have hle := argmin_le (v := v (1 - p)) (l := l)
    have e1 : cross v (p :: T ++ [m]) l = tadd (give v p (argmin (v (1 - p)) l)) (cross v (T ++ [m]) (l.erase (argmin (v (1 - p)) l))) := rfl
    have e2 : cross v (p :: T) (l.erase h) = tadd (give v p (argmin (v (1 - p)) (l.erase h))) (cross v T ((l.erase h).erase (argmin (v (1 - p)) (l.erase h)))) := rfl
    rw [e1, e2]
    generalize hxe : argmin (v (1 - p)) l = x at *
    have hle1 : (l.erase x).length = T.length + 1 := by rw [List.length_erase_of_mem hx, hl]; rfl
    by_cases hxh : x = h
    · subst hxh
      have hne' : l.erase x ≠ [] := fun e => by rw [e] at hle1; cases hle1
      have hy := argmin_mem (v := v (1 - p)) hne'
      generalize hye : argmin (v (1 - p)) (l.erase x) = y at *
      have hyl := List.mem_of_mem_erase hy
      have hxy : v (1 - p) x < v (1 - p) y := by
        have h1 := hle y hyl
        have h2 : v (1 - p) x ≠ v (1 - p) y := fun e => by
          have := ap _ hx _ hyl e
          rw [← this] at hy
          exact (List.Nodup.not_mem_erase hn) hy
        omega
      have ih := cross_snoc_ge m hm T (l.erase x) y (fun q hq => hT q (.tail _ hq)) (hn.erase _) hle1 a0.erase a1.erase hy
      rw [tadd_left (give v m x)]
      rcases (by omega : p = m ∨ p = 1 - m) with rfl | rfl
      · rcases ih with ih | ih
        · left
          rw [ih, tadd_left]
        · right
          simp only [val_add] at ih ⊢
          omega
      · right
        have e3 : 1 - (1 - m) = m := by omega
        rw [e3] at hxy
        rcases ih with ih | ih
        · rw [ih]
          simp only [val_add, val_give v hm, val_give' v hm]
          omega
        · simp only [val_add, val_give v hm, val_give' v hm] at ih ⊢
          omega
    · have hxe' : x ∈ l.erase h := (List.mem_erase_of_ne hxh).mpr hx
      have e4 : argmin (v (1 - p)) (l.erase h) = x := argmin_eq ap.erase hxe' fun y hy => hle y (List.mem_of_mem_erase hy)
      have hh' : h ∈ l.erase x := (List.mem_erase_of_ne (Ne.symm hxh)).mpr hh
      have ih := cross_snoc_ge m hm T (l.erase x) h (fun q hq => hT q (.tail _ hq)) (hn.erase _) hle1 a0.erase a1.erase hh'
      rw [e4, List.erase_comm, tadd_left]
      rcases ih with ih | ih
      · left; rw [ih]
      · right
        rw [val_add _ (give v p x), val_add _ (give v p x)]
        omega
theorem cross_snoc_some (m : Nat) : ∀ (T l : List Nat), l.Nodup → l.length = T.length + 1 → Tells0 (v 0) l → Tells0 (v 1) l → (∀ p ∈ T, p < 2) →
    ∃ h ∈ l, cross v (T ++ [m]) l = tadd (give v m h) (cross v T (l.erase h))
  | [], l, _, hl, _, _, _ => by
    match l, hl with
    | [x], _ => exact ⟨x, .head _, rfl⟩
  | p :: T, l, hn, hl, a0, a1, hT => by
    have hp : p < 2 := hT p (.head _)
    have ap : Tells0 (v (1 - p)) l := by
      rcases (by omega : p = 0 ∨ p = 1) with rfl | rfl
      · exact a1
      · exact a0
    have hne : l ≠ [] := fun e => by rw [e] at hl; cases hl
    have hx := argmin_mem (v := v (1 - p)) hne
    have hle := argmin_le (v := v (1 - p)) (l := l)
    have e1 : cross v (p :: T ++ [m]) l = tadd (give v p (argmin (v (1 - p)) l)) (cross v (T ++ [m]) (l.erase (argmin (v (1 - p)) l))) := rfl
    have e2 : ∀ h, cross v (p :: T) (l.erase h) = tadd (give v p (argmin (v (1 - p)) (l.erase h))) (cross v T ((l.erase h).erase (argmin (v (1 - p)) (l.erase h)))) := fun _ => rfl
    rw [e1]
    generalize hxe : argmin (v (1 - p)) l = x at *
    have hle1 : (l.erase x).length = T.length + 1 := by rw [List.length_erase_of_mem hx, hl]; rfl
    obtain ⟨h, hh, e⟩ := cross_snoc_some m T (l.erase x) (hn.erase _) hle1 a0.erase a1.erase fun q hq => hT q (.tail _ hq)
    have hhl := List.mem_of_mem_erase hh
    have hxh : x ≠ h := fun e => by rw [e] at hh; exact (List.Nodup.not_mem_erase hn) hh
    have hxe' : x ∈ l.erase h := (List.mem_erase_of_ne hxh).mpr hx
    have e4 : argmin (v (1 - p)) (l.erase h) = x := argmin_eq ap.erase hxe' fun y hy => hle y (List.mem_of_mem_erase hy)
    refine ⟨h, hhl, ?_⟩
    rw [e2, e4, List.erase_comm, e, tadd_left]
end
end Mine
end
section
namespace Mine
section
variable (v : Nat → Nat → Int) (ts : List Nat)
/-- the goods of a number's figures -/
noncomputable def goodsOf (S : Nat) : List Nat := (List.range 5).filter fun g => S / 2 ^ g % 2 = 1
/-- what comes of the goods S, played on to the end -/
noncomputable def endOf (S : Nat) : Tri := cross v ((ts.drop (5 - (goodsOf S).length)).reverse) (goodsOf S)
noncomputable def pick (who : Nat) (b : Option Tri) (e : Tri) : Option Tri := match b with
  | none => some e
  | some b => if val who b < val who e then some e else some b
theorem pick_fold (who : Nat) {C : Tri} : ∀ (cs : List Tri) (b : Option Tri), (∀ c ∈ cs, c = C ∨ val who c < val who C) → (b = none ∨ ∃ b', b = some b' ∧ (b' = C ∨ val who b' < val who C)) → (b = some C ∨ C ∈ cs) → cs.foldl (pick who) b = some C
  | [], b, _, _, h => by
    rcases h with rfl | h
    · rfl
    · cases h
  | c :: cs, b, hc, hb, h => by
    rw [List.foldl_cons]
    have h1 := hc c (.head _)
    refine pick_fold who cs _ (fun x hx => hc x (.tail _ hx)) ?_ ?_
    · right
      rcases hb with rfl | ⟨b', rfl, hb⟩
      · exact ⟨c, rfl, h1⟩
      · unfold pick
        dsimp only
        split
        · exact ⟨c, rfl, h1⟩
        · exact ⟨b', rfl, hb⟩
    · rcases hb with rfl | ⟨b', rfl, hb⟩
      · rcases h with h | h
        · cases h
        · rcases List.mem_cons.mp h with rfl | h
          · left; rfl
          · right; exact h
      · unfold pick
        dsimp only
        split
        · rename_i hlt
          rcases h with h | h
          · injection h with h
            subst h
            rcases h1 with rfl | h1
            · left; rfl
            · omega
          · rcases List.mem_cons.mp h with rfl | h
            · left; rfl
            · right; exact h
        · rename_i hlt
          rcases h with h | h
          · left; exact h
          · rcases List.mem_cons.mp h with rfl | h
            · rcases hb with rfl | hb
              · left; rfl
              · omega
            · right; exact h
theorem goodsOf_sub : ∀ S < 32, ∀ g ∈ goodsOf S, goodsOf (S - 2 ^ g) = (goodsOf S).erase g := by decide +kernel
theorem goodsOf_mem {S g : Nat} (h : g ∈ goodsOf S) : g < 5 ∧ S / 2 ^ g % 2 = 1 := by
  unfold goodsOf at h
  obtain ⟨h1, h2⟩ := List.mem_filter.mp h
  exact ⟨List.mem_range.mp h1, of_decide_eq_true h2⟩
theorem goodsOf_len : ∀ S < 32, 0 < S → 0 < (goodsOf S).length ∧ (goodsOf S).length ≤ 5 := by decide +kernel
theorem goodsOf_nodup : ∀ S < 32, (goodsOf S).Nodup := by decide +kernel
/-- the turns' worths tell goods apart, are 0 or 1 for turns -/
structure Fair : Prop where
  len : ts.length = 5
  two : ∀ p ∈ ts, p < 2
  ap0 : Tells0 (v 0) (List.range 5)
  ap1 : Tells0 (v 1) (List.range 5)
theorem Tells0.sub {f : Nat → Int} {l l' : List Nat} (h : Tells0 f l) (s : ∀ x ∈ l', x ∈ l) : Tells0 f l' := fun x hx y hy e => h x (s x hx) y (s y hy) e
theorem played_best (F : Fair v ts) {S : Nat} (h0 : 0 < S) (h1 : S < 32) :
    ((goodsOf S).map fun g => tadd (give v (ts.getD (5 - (goodsOf S).length) 0) g) (endOf v ts (S - 2 ^ g))).foldl (pick (ts.getD (5 - (goodsOf S).length) 0)) none = some (endOf v ts S) := by
  obtain ⟨hl0, hl5⟩ := goodsOf_len S h1 h0
  have hnd := goodsOf_nodup S h1
  have hsub : ∀ x ∈ goodsOf S, x ∈ List.range 5 := fun x hx => List.mem_range.mpr (goodsOf_mem hx).1
  have a0 := F.ap0.sub hsub
  have a1 := F.ap1.sub hsub
  have hlt : 5 - (goodsOf S).length < ts.length := by rw [F.len]; omega
  have hd : ts.drop (5 - (goodsOf S).length) = ts.getD (5 - (goodsOf S).length) 0 :: ts.drop (5 - (goodsOf S).length + 1) := by
    rw [List.drop_eq_getElem_cons hlt, List.getD_eq_getElem?_getD, List.getElem?_eq_getElem hlt]; rfl
  have hw : ts.getD (5 - (goodsOf S).length) 0 < 2 := by
    rw [List.getD_eq_getElem?_getD, List.getElem?_eq_getElem hlt]; exact F.two _ (List.getElem_mem hlt)
  generalize hwe : ts.getD (5 - (goodsOf S).length) 0 = who at *
  have hT : ∀ p ∈ (ts.drop (5 - (goodsOf S).length + 1)).reverse, p < 2 := fun p hp => F.two p (List.mem_of_mem_drop (List.mem_reverse.mp hp))
  have hlen : (goodsOf S).length = (ts.drop (5 - (goodsOf S).length + 1)).reverse.length + 1 := by
    rw [List.length_reverse, List.length_drop, F.len]; omega
  have e1 : endOf v ts S = cross v ((ts.drop (5 - (goodsOf S).length + 1)).reverse ++ [who]) (goodsOf S) := by
    unfold endOf
    rw [hd, List.reverse_cons]
  have e2 : ∀ g ∈ goodsOf S, endOf v ts (S - 2 ^ g) = cross v ((ts.drop (5 - (goodsOf S).length + 1)).reverse) ((goodsOf S).erase g) := fun g hg => by
    unfold endOf
    rw [goodsOf_sub S h1 g hg, List.length_erase_of_mem hg]
    congr 3
    omega
  refine pick_fold who _ none ?_ (.inl rfl) ?_
  · intro c hc
    obtain ⟨g, hg, rfl⟩ := List.mem_map.mp hc
    rw [e1, e2 g hg]
    rcases cross_snoc_ge v who hw _ _ g hT hnd hlen a0 a1 hg with h | h
    · left; exact h.symm
    · right; exact h
  · right
    obtain ⟨g, hg, h⟩ := cross_snoc_some v who _ _ hnd hlen a0 a1 hT
    refine List.mem_map.mpr ⟨g, hg, ?_⟩
    rw [e1, e2 g hg, h]
end
end Mine
end
section
namespace Mine
section
variable (v : Nat → Nat → Int)
/-- crossing out, a step: p's turn; left, what the first has, what the second has -/
structure CN where
  l : List Nat
  s0 : List Nat
  s1 : List Nat
noncomputable def stepC (c : CN) (p : Nat) : CN := let x := argmin (v (1 - p)) c.l; ⟨c.l.erase x, if p = 0 then c.s0 ++ [x] else c.s0, if p = 0 then c.s1 else c.s1 ++ [x]⟩
noncomputable def crossN (T : List Nat) : CN := T.foldl (stepC v) ⟨[0, 1, 2, 3, 4], [], []⟩
noncomputable def sum8 (l : List Nat) : Int := (l.map fun g => (8 : Int) ^ g).sum
theorem sum8_snoc (l : List Nat) (x : Nat) : sum8 (l ++ [x]) = sum8 l + 8 ^ x := by
  unfold sum8; simp
theorem cross_sum8 : ∀ (T : List Nat) (c : CN), sum8 (T.foldl (stepC v) c).s0 = sum8 c.s0 + (cross v T c.l).1
  | [], c => by
    show sum8 c.s0 = sum8 c.s0 + 0
    omega
  | p :: T, c => by
    rw [List.foldl_cons, cross_sum8 T]
    show _ = sum8 c.s0 + (tadd (give v p (argmin (v (1 - p)) c.l)) (cross v T (c.l.erase (argmin (v (1 - p)) c.l)))).1
    show sum8 (if p = 0 then c.s0 ++ [argmin (v (1 - p)) c.l] else c.s0) + (cross v T (c.l.erase (argmin (v (1 - p)) c.l))).1 = _
    generalize cross v T (c.l.erase (argmin (v (1 - p)) c.l)) = r
    generalize argmin (v (1 - p)) c.l = x
    unfold tadd give
    by_cases hp : p = 0
    · rw [if_pos hp, if_pos hp, sum8_snoc]; dsimp only; omega
    · rw [if_neg hp, if_neg hp]; dsimp only; omega
theorem stepC_perm (c : CN) (p : Nat) (h : c.l ≠ []) : ((stepC v c p).s0 ++ (stepC v c p).s1 ++ (stepC v c p).l).Perm (c.s0 ++ c.s1 ++ c.l) := by
  have hx := argmin_mem (v := v (1 - p)) h
  unfold stepC
  dsimp only
  generalize argmin (v (1 - p)) c.l = x at *
  have hp := List.perm_cons_erase hx
  by_cases h0 : p = 0
  · rw [if_pos h0, if_pos h0]
    refine List.Perm.trans ?_ (List.Perm.append_left _ hp.symm)
    simp only [List.append_assoc, List.singleton_append]
    refine List.Perm.append_left _ ?_
    exact (List.perm_middle).symm
  · rw [if_neg h0, if_neg h0]
    refine List.Perm.trans ?_ (List.Perm.append_left _ hp.symm)
    simp only [List.append_assoc, List.singleton_append]
    exact List.Perm.refl _
theorem stepC_len (c : CN) (p : Nat) (h : c.l ≠ []) : (stepC v c p).l.length + 1 = c.l.length := by
  have hx := argmin_mem (v := v (1 - p)) h
  unfold stepC
  dsimp only
  rw [List.length_erase_of_mem hx]
  have : 0 < c.l.length := List.length_pos_iff.mpr h
  omega
theorem foldC_perm : ∀ (T : List Nat) (c : CN), T.length ≤ c.l.length → ((T.foldl (stepC v) c).s0 ++ (T.foldl (stepC v) c).s1 ++ (T.foldl (stepC v) c).l).Perm (c.s0 ++ c.s1 ++ c.l) ∧ (T.foldl (stepC v) c).l.length + T.length = c.l.length
  | [], c, _ => ⟨List.Perm.refl _, rfl⟩
  | p :: T, c, h => by
    have hne : c.l ≠ [] := fun e => by rw [e] at h; simp at h
    have hl := stepC_len v c p hne
    obtain ⟨h1, h2⟩ := foldC_perm T (stepC v c p) (by simp only [List.length_cons] at h; omega)
    exact ⟨h1.trans (stepC_perm v c p hne), by rw [List.foldl_cons, List.length_cons]; omega⟩
end
end Mine
end
section
/-! The plain law's rest: shares as masks. No program in sight. -/
namespace Mine
theorem mask_all : ∀ b0 b1 b2 b3 b4 : Bool, ∃ M, M < 32 ∧ goodsOf M = [0, 1, 2, 3, 4].filter (fun g => [b0, b1, b2, b3, b4].getD g false) ∧ goodsOf (31 - M) = [0, 1, 2, 3, 4].filter (fun g => !([b0, b1, b2, b3, b4].getD g false)) := by
  intro b0 b1 b2 b3 b4
  refine ⟨(if b0 then 1 else 0) + (if b1 then 2 else 0) + (if b2 then 4 else 0) + (if b3 then 8 else 0) + (if b4 then 16 else 0), ?_⟩
  revert b0 b1 b2 b3 b4
  decide +kernel
theorem share_mask {s0 s1 : List Nat} (h : (s0 ++ s1).Perm [0, 1, 2, 3, 4]) : ∃ M, M < 32 ∧ s0.Perm (goodsOf M) ∧ s1.Perm (goodsOf (31 - M)) := by
  obtain ⟨M, hM, e0, e1⟩ := mask_all (decide (0 ∈ s0)) (decide (1 ∈ s0)) (decide (2 ∈ s0)) (decide (3 ∈ s0)) (decide (4 ∈ s0))
  have hg : ∀ g, g ∈ [0, 1, 2, 3, 4] → [decide (0 ∈ s0), decide (1 ∈ s0), decide (2 ∈ s0), decide (3 ∈ s0), decide (4 ∈ s0)].getD g false = decide (g ∈ s0) := by
    intro g hg
    simp only [List.mem_cons, List.not_mem_nil, or_false] at hg
    rcases hg with rfl | rfl | rfl | rfl | rfl <;> rfl
  have hn : (s0 ++ s1).Nodup := h.nodup_iff.mpr (by decide)
  have hn5 : [0, 1, 2, 3, 4].Nodup := by decide
  obtain ⟨n0, n1, nd⟩ := List.nodup_append.mp hn
  refine ⟨M, hM, ?_, ?_⟩
  · rw [e0]
    refine (List.perm_ext_iff_of_nodup n0 (hn5.filter _)).mpr fun x => ?_
    rw [List.mem_filter]
    constructor
    · intro hx
      have hm := h.mem_iff.mp (List.mem_append.mpr (.inl hx))
      exact ⟨hm, by rw [hg x hm]; exact decide_eq_true hx⟩
    · rintro ⟨hm, hx⟩
      rw [hg x hm] at hx
      exact of_decide_eq_true hx
  · rw [e1]
    refine (List.perm_ext_iff_of_nodup n1 (hn5.filter _)).mpr fun x => ?_
    rw [List.mem_filter]
    constructor
    · intro hx
      have hm := h.mem_iff.mp (List.mem_append.mpr (.inr hx))
      refine ⟨hm, ?_⟩
      rw [hg x hm, decide_eq_false (fun h0 => nd x h0 x hx rfl)]; rfl
    · rintro ⟨hm, hx⟩
      rw [hg x hm] at hx
      rcases List.mem_append.mp (h.mem_iff.mpr hm) with h0 | h1
      · rw [decide_eq_true h0] at hx; cases hx
      · exact h1
theorem sorted_is {n : List Int} {l g : List Nat} (hs : n.Pairwise (· ≤ ·)) (hp : n.Perm (l.map fun x : Nat => (x : Int))) (hg : l.Perm g) (gs : g.Pairwise (· ≤ ·)) : n = g.map fun x : Nat => (x : Int) := by
  refine List.Perm.eq_of_pairwise (le := (· ≤ ·)) (fun a b _ _ h1 h2 => Int.le_antisymm h1 h2) hs ?_ (hp.trans (hg.map _))
  rw [List.pairwise_map]
  exact gs.imp fun h => Int.ofNat_le.mpr h
theorem goodsOf_sorted : ∀ M, M < 32 → (goodsOf M).Pairwise (· ≤ ·) := by decide +kernel
theorem sumI_perm {a b : List Int} (h : a.Perm b) : a.sum = b.sum := by
  induction h with
  | nil => rfl
  | cons x _ ih => rw [List.sum_cons, List.sum_cons, ih]
  | swap x y l => simp only [List.sum_cons]; omega
  | trans _ _ i1 i2 => exact i1.trans i2
theorem sum8_perm {a b : List Nat} (h : a.Perm b) : sum8 a = sum8 b := by
  unfold sum8
  exact sumI_perm (h.map _)
theorem sum8_flag : ∀ M, M < 32 → sum8 (goodsOf M) = (((goodsOf M).map (8 ^ ·)).sum : Nat) ∧ (4681 : Int) - sum8 (goodsOf M) = (((goodsOf (31 - M)).map (8 ^ ·)).sum : Nat) := by decide +kernel
/-- what the table tells of all goods is the sum of the crossed share's flags -/
theorem got_sum {v : Nat → Nat → Int} {ts : List Nat} : (endOf v ts 31).1 = sum8 (crossN v ts.reverse).s0 := by
  unfold crossN
  rw [cross_sum8]
  have e : goodsOf 31 = [0, 1, 2, 3, 4] := by decide +kernel
  unfold endOf
  rw [e]
  show (cross v (ts.drop 0).reverse _).1 = 0 + _
  rw [List.drop_zero, Int.zero_add]
end Mine
end
section
open PySem PySem.W PyProof.Rows
set_option maxRecDepth 100000
namespace Mine

/-- where the top's statements run: the program, the world, the heap's line, the body's code -/
structure TC where
  p : Program
  w : World
  n0 : Nat
  ann : Option Value
  b : List Stmt
  env : Env
  q : Pos

noncomputable abbrev TC.thr (C : TC) (cur : Sem Fin) (pos : Pos) : Thread := ⟨cur, .body C.b C.env, pos, [topFrame C.q]⟩
noncomputable abbrev TC.run (C : TC) (N : Nat) (s : Shared) (t : Thread) : Option Shared := topRun treeTable C.p C.w C.n0 C.ann N s t

/-- m takes k steps from (h, t, pos) to a and (h', t', pos') -/
noncomputable def At {α : Type} (C : TC) (m : Sem α) (k : Nat) (h : Heap) (t : Nat) (pos : Pos) (a : α) (h' : Heap) (t' : Nat) (pos' : Pos) : Prop :=
  ∀ (K : α → Sem Fin) (H : Value → Sem Fin) (gd : Bool → Bool) (lv : List Value → List Value) (g : Array GenState) (d : Drawn) (os : OsState) (N : Nat) (r : Shared),
    C.run N ⟨h', g, d, t', os⟩ (C.thr (K a) pos') = some r → C.run (k + N) ⟨h, g, d, t, os⟩ (C.thr (m.wrap K H gd lv) pos) = some r

variable {α β : Type} {C : TC} {h h' h'' : Heap} {t t' t'' : Nat} {pos pos' pos'' : Pos}

theorem At.pure {a : α} : At C (Sem.pure a) 0 h t pos a h t pos := by
  intro K H gd lv g d os N r hN
  rw [Nat.zero_add]
  exact hN

theorem At.bind {m : Sem α} {f : α → Sem β} {k k' : Nat} {a : α} {c : β} (h1 : At C m k h t pos a h' t' pos') (h2 : At C (f a) k' h' t' pos' c h'' t'' pos'') : At C (m >>= f) (k + k') h t pos c h'' t'' pos'' := by
  intro K H gd lv g d os N r hN
  rw [Sem.bind_eq_wrap', Sem.wrap_wrap, Nat.add_assoc]
  exact h1 _ _ _ _ g d os _ r (h2 K H gd lv g d os N r hN)

theorem At.keep {m : Sem α} {vs : List Value} {k : Nat} {a : α} (h1 : At C m k h t pos a h' t' pos') : At C (m.keep vs) k h t pos a h' t' pos' := by
  intro K H gd lv g d os N r hN
  rw [Sem.keep_eq_wrap, Sem.wrap_wrap]
  exact h1 _ _ _ _ g d os _ r hN
theorem At.holding {m : Sem α} {vs : List Value} {k : Nat} {a : α} (h1 : At C m k h t pos a h' t' pos') : At C (holding vs m) k h t pos a h' t' pos' := by
  unfold PySem.holding
  split
  · exact h1
  · exact h1.keep
theorem At.tryCatch {m : Sem α} {x : Value → Sem α} {k : Nat} {a : α} (h1 : At C m k h t pos a h' t' pos') : At C (m.tryCatch x) k h t pos a h' t' pos' := by
  intro K H gd lv g d os N r hN
  rw [Sem.tryCatch_eq_wrap, Sem.wrap_wrap]
  exact h1 _ _ _ _ g d os _ r hN
theorem At.onRaise {m : Sem α} {x : Value → Sem Unit} {k : Nat} {a : α} (h1 : At C m k h t pos a h' t' pos') : At C (m.onRaise x) k h t pos a h' t' pos' := by
  intro K H gd lv g d os N r hN
  rw [Sem.onRaise_eq_wrap, Sem.wrap_wrap]
  exact h1 _ _ _ _ g d os _ r hN

/-- one step that stays in the body -/
theorem run_one {s s' : Shared} {cur cur' : Sem Fin} {N : Nat} {r : Shared} (hn : through (C.thr cur pos) = false) (hk : stepOk C.n0 C.ann (C.thr cur pos) = true)
    (hs : step (denote treeTable) C.p C.w s (C.thr cur pos) = .go s' (C.thr cur' pos')) (hN : C.run N s' (C.thr cur' pos') = some r) : C.run (1 + N) s (C.thr cur pos) = some r := by
  rw [Nat.add_comm]
  unfold TC.run topRun
  rw [hn, hk, hs]
  exact hN

theorem At.rule {tag : String} : At C (PySem.rule tag) 1 h t pos () h t pos := fun _ _ _ _ _ _ _ _ _ hN => run_one rfl rfl rfl hN
theorem At.standAt {p : Pos} : At C (PySem.standAt p) 1 h t pos () h t p := fun _ _ _ _ _ _ _ _ _ hN => run_one rfl rfl rfl hN
theorem At.fresh : At C PySem.fresh 1 h t pos t h (t + 1) pos := fun _ _ _ _ _ _ _ _ _ hN => run_one rfl rfl rfl hN
theorem At.point : At C PySem.point 1 h t pos () h t pos := fun _ _ _ _ _ _ _ _ _ hN => run_one rfl rfl rfl hN
theorem At.ask : At C (Sem.ask Sem.pure) 1 h t pos ⟨C.p, C.w.params⟩ h t pos := fun _ _ _ _ _ _ _ _ _ hN => run_one rfl rfl rfl hN
theorem At.alloc {o : Obj} : At C (PySem.alloc o) 1 h t pos h.objs.size (h.push o) t pos := fun _ _ _ _ _ _ _ _ _ hN => run_one rfl rfl rfl hN
theorem At.loadPart {a : Addr} {part : Option Value} {o : Obj} (ho : h.get? a = some o) : At C (PySem.loadPart a part) 1 h t pos o h t pos := fun K H gd lv g d os N r hN =>
  run_one rfl rfl (by show (match h.get? a with | some o => _ | none => _) = _; rw [ho]; rfl) hN
theorem At.load {a : Addr} {o : Obj} (ho : h.get? a = some o) : At C (PySem.load a) 1 h t pos o h t pos := fun K H gd lv g d os N r hN =>
  run_one rfl rfl (by show (match h.get? a with | some o => _ | none => _) = _; rw [ho]; rfl) hN
theorem At.updatePart {a : Addr} {part : Option Value} {f : Obj → Obj} (ha : C.n0 ≤ a) (ho : (h.get? a).isSome = true) : At C (PySem.updatePart a part f) 1 h t pos () (h.update a f) t pos := fun K H gd lv g d os N r hN =>
  run_one rfl (by show ((true && true && true) && (Nat.ble C.n0 a || a == mainNs || a == cStatics || C.ann == some (.ref a))) = true; rw [Nat.ble_eq_true_of_le ha]; rfl)
    (by show (if (h.get? a).isSome then _ else _) = _; rw [if_pos ho]; rfl) hN
end Mine
end
section
open PySem PySem.W PyProof.Rows
set_option maxRecDepth 100000
namespace Mine
variable {α β : Type} {C : TC} {h h' h'' : Heap} {t t' t'' : Nat} {pos pos' pos'' : Pos}

theorem spec_hash (k : Int) (u : Tok) : specialOf (.int k u) "__hash__" = (pure (some (.builtin "int.__hash__")) : Sem (Option Value)) := by
  show (typeLookup (.type "int") "__hash__") = _
  exact slot_int_hash.lookup
theorem check_hash (k : Int) (u : Tok) : checkBuiltinCall "int.__hash__" ⟨[.int k u], []⟩ = (pure () : Sem Unit) := by
  kernel_rfl
theorem den_call (k : Int) (u : Tok) : denote treeTable (.call (.builtin "int.__hash__") ⟨[.int k u], []⟩) = Sem.pure (.again (.builtin "int.__hash__" ⟨[.int k u], []⟩)) := by
  show (checkBuiltinCall "int.__hash__" ⟨[.int k u], []⟩ >>= fun _ => again (.builtin "int.__hash__" ⟨[.int k u], []⟩)) = _
  rw [check_hash]
  rfl
theorem den_hash (k : Int) (u : Tok) : denote treeTable (.builtin "int.__hash__" ⟨[.int k u], []⟩) = Sem.fresh fun x => Sem.pure (.done (.ret (.int (rawHash k) x))) := by
  have e : entryFor treeTable "int.__hash__" = some Builtin.«int.__hash__» := by rw [← table_eq_tree]; exact entry_int_hash
  simp only [denote, e]
  rfl
theorem stepOk_again (k : Int) (u : Tok) (code : Code) (pos : Pos) (st : List Frame) (n0 : Nat) (ann : Option Value) : stepOk n0 ann ⟨Sem.pure (.again (.builtin "int.__hash__" ⟨[.int k u], []⟩)), code, pos, st⟩ = true := by
  have e : ("int.__hash__".startsWith "lifetime.") = false := by decide +kernel
  show ((!("int.__hash__".startsWith "lifetime.") || _) && true && true) && true = true
  rw [e]; rfl
theorem At.call_hash {k : Int} {u : Tok} : At C (call (.builtin "int.__hash__") [.int k u] []) 4 h t pos (.int (rawHash k) t) h (t + 1) pos := by
  intro K H gd lv g d os N r hN
  rw [Nat.add_comm]
  show C.run (N + 3) ⟨h, g, d, t, os⟩ ⟨denote treeTable (.call (.builtin "int.__hash__") ⟨[.int k u], []⟩), .call (.builtin "int.__hash__") ⟨[.int k u], []⟩, pos, _ :: [topFrame C.q]⟩ = some r
  rw [den_call]
  have e := stepOk_again k u (.call (.builtin "int.__hash__") ⟨[.int k u], []⟩) pos
  unfold TC.run topRun
  rw [e]
  show C.run (N + 2) ⟨h, g, d, t, os⟩ ⟨denote treeTable (.builtin "int.__hash__" ⟨[.int k u], []⟩), .builtin "int.__hash__" ⟨[.int k u], []⟩, pos, _ :: [topFrame C.q]⟩ = some r
  rw [den_hash]
  exact hN
theorem At.hash {k : Int} {u : Tok} : At C (pyHash (.int k u)) 5 h t pos (hashInt k) h (t + 1) pos := by
  have hr := rawHash_range k
  have hv : [Value.int k u].any Value.onHeap = false := rfl
  show At C (pyHashByItsType (.int k u)) (0 + (0 + (0 + (5 + 0)))) _ _ _ _ _ _ _
  unfold pyHashByItsType
  simp only [cRoomFor, hv, Bool.false_eq_true, if_false]
  refine At.bind At.pure ?_
  rw [spec_hash]
  refine At.bind At.pure ?_
  show At C (if (some (Value.builtin "int.__hash__") == some Value.none) = true then _ else _) _ _ _ _ _ _ _ _
  rw [if_neg (by rw [beq_builtin_none]; exact Bool.false_ne_true)]
  refine At.bind At.pure ?_
  show At C (callSpecialIfBoundUnlessNone? (.int k u) "__hash__" _ >>= _) _ _ _ _ _ _ _ _
  refine' At.bind (a := some (.int (rawHash k) t)) (h' := h) (t' := t + 1) (pos' := pos) ?_ ?_
  · unfold callSpecialIfBoundUnlessNone?
    refine At.holding ?_
    show At C _ (1 + 4) _ _ _ _ _ _ _
    refine' At.bind (a := some (.builtin "int.__hash__", [.int k u])) (h' := h) (t' := t) (pos' := pos) ?_ ?_
    · unfold bindSpecialIfBound?
      rw [spec_hash]
      simp only [slot_int_hash.bind]
      show At C _ (0 + 1) _ _ _ _ _ _ _
      refine At.bind At.pure ?_
      show At C _ (1 + 0) _ _ _ _ _ _ _
      refine At.bind At.ask ?_
      dsimp only
      split
      · exact At.pure
      · exact At.tryCatch At.pure
    · show At C (if (Value.builtin "int.__hash__" == Value.none) = true then _ else _) _ _ _ _ _ _ _ _
      rw [builtin_beq_none, if_neg Bool.false_ne_true]
      show At C _ (4 + 0) _ _ _ _ _ _ _
      exact At.bind At.call_hash At.pure
  · show At C (if (decide (-(2 : Int) ^ 63 ≤ rawHash k) && decide (rawHash k < 2 ^ 63)) = true then _ else _) _ _ _ _ _ _ _ _
    rw [if_pos (by rw [decide_eq_true hr.1, decide_eq_true hr.2]; rfl)]
    exact At.pure
end Mine
end
section
open PySem PySem.W PyProof.Rows
set_option maxRecDepth 100000
namespace Mine
variable {α β : Type} {C : TC} {h h' h'' : Heap} {t t' t'' : Nat} {pos pos' pos'' : Pos}

/-- a heap and objects laid behind it -/
noncomputable def HP (h : Heap) (l : List Obj) : Heap := ⟨h.objs ++ l.toArray, h.life⟩
theorem HP.nil : HP h [] = h := by
  cases h; simp [HP]
theorem HP.push {l : List Obj} {o : Obj} : (HP h l).push o = HP h (l ++ [o]) := by
  simp [HP, Heap.push]
theorem HP.size {l : List Obj} : (HP h l).objs.size = h.objs.size + l.length := by simp [HP]
theorem HP.get {l : List Obj} {i : Nat} {o : Obj} (e : l[i]? = some o) (hf : o.isFreed = false) : (HP h l).get? (h.objs.size + i) = some o := by
  have : (HP h l).objs[h.objs.size + i]? = some o := by simp [HP, Array.getElem?_append, e]
  unfold Heap.get?
  rw [this]
  obtain ⟨c, d, dt, s⟩ := o
  cases dt <;> first | rfl | cases hf
theorem HP.upd {l : List Obj} {i : Nat} {f : Obj → Obj} : (HP h l).update (h.objs.size + i) f = HP h (l.modify i f) := by
  simp only [HP, Heap.update]
  congr 1
  apply Array.ext_getElem?
  intro j
  rw [Array.getElem?_modify, Array.getElem?_append, Array.getElem?_append]
  by_cases hj : j < h.objs.size
  · rw [if_pos hj, if_pos hj, if_neg (by omega)]
  · rw [if_neg hj, if_neg hj, List.getElem?_toArray, List.getElem?_toArray, List.getElem?_modify]
    by_cases e : h.objs.size + i = j
    · have e' : i = j - h.objs.size := by omega
      rw [if_pos e]
      simp [e']
    · have e' : ¬ i = j - h.objs.size := by omega
      rw [if_neg e]
      simp [e']

noncomputable abbrev D (es : Array DictEntry) (n : Nat) : Obj := { cls := .type "dict", data := .dict es n }

theorem At.const_int {i : Int} {kk : Nat} {p : Pos} {env : Env} : At C (eval (.Constant (.int i) kk p) env) 1 h t pos (.int i t) h (t + 1) pos := by
  show At C (mkInt i) (1 + 0) _ _ _ _ _ _ _
  exact At.bind At.fresh At.pure
theorem At.const_str {x : Str} {kk : Nat} {p : Pos} {env : Env} : At C (eval (.Constant (.str x) kk p) env) 1 h t pos (.str x t) h (t + 1) pos := by
  show At C (mkText x) (1 + 0) _ _ _ _ _ _ _
  exact At.bind At.fresh At.pure

theorem no_places {es : Array DictEntry} {hs : Int} (hno : ∀ e ∈ es, e.hash ≠ hs) : placesWithHash es.size (fun i => es[i]?.map (·.hash)) hs = [] := by
  unfold placesWithHash
  refine List.filter_eq_nil_iff.mpr fun i hi => ?_
  have hi' : i < es.size := List.mem_range.mp hi
  dsimp only
  rw [Array.getElem?_eq_getElem hi']
  simpa using hno _ (Array.getElem_mem hi')

theorem At.ite_pos {c : Prop} [Decidable c] {m m' : Sem α} {k : Nat} {a : α} (hc : c) (h1 : At C m k h t pos a h' t' pos') : At C (if c then m else m') k h t pos a h' t' pos' := by
  rw [if_pos hc]; exact h1
theorem At.ite_neg {c : Prop} [Decidable c] {m m' : Sem α} {k : Nat} {a : α} (hc : ¬ c) (h1 : At C m' k h t pos a h' t' pos') : At C (if c then m else m') k h t pos a h' t' pos' := by
  rw [if_neg hc]; exact h1
theorem At.entries {a : Addr} {part : Option Value} {es : Array DictEntry} {n : Nat} (ho : h.get? a = some (D es n)) : At C (dictEntries a part) 1 h t pos es h t pos := by
  show At C _ (1 + 0) _ _ _ _ _ _ _
  exact At.bind (At.loadPart ho) At.pure
theorem At.epoch {a : Addr} {part : Option Value} {es : Array DictEntry} {n : Nat} (ho : h.get? a = some (D es n)) : At C (dictEpoch a part) 1 h t pos n h t pos := by
  show At C _ (1 + 0) _ _ _ _ _ _ _
  exact At.bind (At.loadPart ho) At.pure

theorem At.find_none {a : Addr} {k : Int} {u : Tok} {es : Array DictEntry} {n : Nat} (ho : h.get? a = some (D es n)) (hno : ∀ e ∈ es, e.hash ≠ hashInt k) :
    At C (dictFind a (.int k u) (hashInt k)) 1 h t pos none h t pos := by
  unfold dictFind
  refine At.holding ?_
  show At C _ (1 + 0) _ _ _ _ _ _ _
  refine At.bind (At.entries ho) ?_
  dsimp only
  rw [no_places hno]
  dsimp only [List.filterMap_nil]
  refine At.ite_pos (by rfl) ?_
  unfold dictWalkPlain
  exact At.pure

theorem At.put_keys {a : Addr} {k : Int} {u : Tok} {v : Value} {es : Array DictEntry} {n : Nat} {part : Option Value} (ha : C.n0 ≤ a) (ho : h.get? a = some (D es n)) (hz : es.size + 1 ≤ 100000)
    (ho' : h'.get? a = some (D (es.push ⟨hashInt k, .int k u, v⟩) (n + 1))) (hu : h.update a (Obj.mapDictKeys (·.push ⟨hashInt k, .int k u, v⟩)) = h') :
    At C (updateDictKeys a (·.push ⟨hashInt k, .int k u, v⟩) part) 3 h t pos () h' t pos := by
  unfold updateDictKeys
  show At C _ (1 + (1 + 1)) _ _ _ _ _ _ _
  refine At.bind (At.loadPart ho) ?_
  dsimp only
  refine At.bind (At.updatePart ha (by rw [ho]; rfl)) ?_
  rw [hu]
  unfold lookBehind
  show At C _ (1 + 0) _ _ _ _ _ _ _
  refine At.bind (At.loadPart ho') ?_
  show At C (match (if (es.push _).size > sizeLine + 1 then some "dict:memory" else none) with | some what => _ | _ => _) _ _ _ _ _ _ _ _
  rw [if_neg (by rw [Array.size_push, sizeLine_eq]; omega)]
  exact At.pure
theorem At.set_new {a : Addr} {k : Int} {u : Tok} {v : Value} {es : Array DictEntry} {n : Nat} (ha : C.n0 ≤ a) (ho : h.get? a = some (D es n)) (hno : ∀ e ∈ es, e.hash ≠ hashInt k) (hz : es.size + 1 ≤ 100000)
    (ho' : h'.get? a = some (D (es.push ⟨hashInt k, .int k u, v⟩) (n + 1))) (hu : h.update a (Obj.mapDictKeys (·.push ⟨hashInt k, .int k u, v⟩)) = h') :
    At C (dictSet a (.int k u) v) 10 h t pos () h' (t + 1) pos := by
  unfold dictSet
  refine At.holding ?_
  show At C _ (5 + 5) _ _ _ _ _ _ _
  refine At.bind At.hash ?_
  unfold dictSetHashed
  refine At.holding ?_
  show At C _ (1 + 4) _ _ _ _ _ _ _
  refine At.bind (At.find_none ho hno) ?_
  dsimp only
  show At C _ (1 + 3) _ _ _ _ _ _ _
  exact At.bind At.rule (At.put_keys ha ho hz ho' hu)
theorem At.put_new {a : Addr} {k : Int} {u : Tok} {v : Value} {es : Array DictEntry} {n : Nat} (ha : C.n0 ≤ a) (ho : h.get? a = some (D es n)) (hno : ∀ e ∈ es, e.hash ≠ hashInt k) (hz : es.size + 1 ≤ 100000)
    (ho' : h'.get? a = some (D (es.push ⟨hashInt k, .int k u, v⟩) (n + 1))) (hu : h.update a (Obj.mapDictKeys (·.push ⟨hashInt k, .int k u, v⟩)) = h') :
    At C (dictPut a (hashInt k) (.int k u) v) 4 h t pos () h' t pos := by
  unfold dictPut
  show At C _ (1 + 3) _ _ _ _ _ _ _
  refine At.bind (At.find_none ho hno) ?_
  exact At.put_keys ha ho hz ho' hu
end Mine
end
section
open PySem PySem.W PyProof.Rows
set_option maxRecDepth 100000
namespace Mine
variable {α β : Type} {C : TC} {h h' h'' : Heap} {t t' t'' : Nat} {pos pos' pos'' : Pos}

/-- a row of a dict display: an int key, a text, their places -/
noncomputable abbrev Row := Int × Str × Pos × Pos
noncomputable def keyE (r : Row) : Option Expr := some (.Constant (.int r.1) 0 r.2.2.1)
noncomputable def valE (r : Row) : Expr := .Constant (.str r.2.1) 0 r.2.2.2
noncomputable def pairOf (env : Env) (dp : Pos) (r : Row) : Sem Value × Sem Value := (eval (.Constant (.int r.1) 0 r.2.2.1) env, do let x ← eval (valE r) env; standAt dp; pure x)
noncomputable def itemOf3 (env : Env) (dp : Pos) (r : Row) : Option (Sem Value) × Sem Value := (some (eval (.Constant (.int r.1) 0 r.2.2.1) env), do let x ← eval (valE r) env; standAt dp; pure x)
noncomputable def entL (r : Row) (t : Nat) : DictEntry := ⟨hashInt r.1, .int r.1 t, .str r.2.1 (t + 1)⟩
noncomputable def ents : List Row → Nat → List DictEntry
  | [], _ => []
  | r :: l, t => entL r t :: ents l (t + 3)
noncomputable def entsS : List Row → Nat → List DictEntry
  | [], _ => []
  | r :: l, t => entL r t :: entsS l (t + 2)
noncomputable def vals : List Row → Nat → List (Value × Value)
  | [], _ => []
  | r :: l, t => (.int r.1 t, .str r.2.1 (t + 1)) :: vals l (t + 2)

theorem At.cast {m : Sem α} {k k' : Nat} {a : α} (h1 : At C m k h t pos a h' t' pos') (e : k = k') (e2 : t' = t'') (e3 : h' = h'') : At C m k' h t pos a h'' t'' pos' := by
  subst e; subst e2; subst e3; exact h1

theorem key_at {env : Env} {dp : Pos} {r : Row} : At C (pairOf env dp r).1 1 h t pos (.int r.1 t) h (t + 1) pos := At.const_int (env := env) (kk := 0) (p := r.2.2.1)
theorem val_at {env : Env} {dp : Pos} {r : Row} : At C (pairOf env dp r).2 2 h t pos (.str r.2.1 t) h (t + 1) dp := by
  show At C _ (1 + (1 + 0)) _ _ _ _ _ _ _
  exact At.bind At.const_str (At.bind At.standAt At.pure)

/-- the keys' hashes are apart -/
noncomputable def Apart (es : List DictEntry) (L : List Row) : Prop := (∀ e ∈ es, ∀ r ∈ L, e.hash ≠ hashInt r.1) ∧ L.Pairwise (fun a b => hashInt a.1 ≠ hashInt b.1)
theorem Apart.next {es : List DictEntry} {r : Row} {L : List Row} {t : Nat} (a : Apart es (r :: L)) : Apart (es ++ [entL r t]) L := by
  refine ⟨fun e he x hx => ?_, (List.pairwise_cons.mp a.2).2⟩
  rcases List.mem_append.mp he with he | he
  · exact a.1 e he x (.tail _ hx)
  · rw [List.mem_singleton.mp he]
    exact (List.pairwise_cons.mp a.2).1 x hx

theorem mod_last {γ : Type} (f : γ → γ) (x : γ) : ∀ l : List γ, (l ++ [x]).modify l.length f = l ++ [f x]
  | [] => rfl
  | y :: l => by
    show (y :: (l ++ [x])).modify (l.length + 1) f = y :: (l ++ [f x])
    rw [List.modify_succ_cons, mod_last f x l]
theorem hp_last {h0 : Heap} {pre : List Obj} {es : Array DictEntry} {n : Nat} : (HP h0 (pre ++ [D es n])).get? (h0.objs.size + pre.length) = some (D es n) :=
  HP.get (by simp) rfl
theorem hp_lastU {h0 : Heap} {pre : List Obj} {es : Array DictEntry} {n : Nat} {e : DictEntry} : (HP h0 (pre ++ [D es n])).update (h0.objs.size + pre.length) (Obj.mapDictKeys (·.push e)) = HP h0 (pre ++ [D (es.push e) (n + 1)]) := by
  rw [HP.upd]
  congr 1
  rw [mod_last]
  rfl

theorem long_loop (h0 : Heap) (pre : List Obj) (env : Env) (dp : Pos) (hn : C.n0 ≤ h0.objs.size) : ∀ (L : List Row) (es : List DictEntry) (n t : Nat), es.length + L.length ≤ 99999 → Apart es L →
    At C (forIn (L.map (pairOf env dp)) PUnit.unit fun x _ => match x with
        | (k, v) => do
          let kv ← k
          let vv ← holding [kv] v
          holding [kv, vv] (dictSet (h0.objs.size + pre.length) kv vv)
          pure (ForInStep.yield PUnit.unit)) (13 * L.length) (HP h0 (pre ++ [D es.toArray n])) t dp PUnit.unit (HP h0 (pre ++ [D (es ++ ents L t).toArray (n + L.length)])) (t + 3 * L.length) dp
  | [], es, n, t, _, _ => by
    rw [List.map_nil, List.forIn_nil]
    exact (At.pure).cast rfl rfl (by simp [ents])
  | r :: L, es, n, t, hz, ha => by
    rw [List.map_cons, List.forIn_cons]
    have hz' : (es ++ [entL r t]).length + L.length ≤ 99999 := by
      rw [List.length_append]
      simp only [List.length_cons, List.length_nil] at hz ⊢; omega
    have ih := long_loop h0 pre env dp hn L (es ++ [entL r t]) (n + 1) (t + 3) hz' ha.next
    refine At.cast (k := 13 + 13 * L.length) (t' := t + 3 + 3 * L.length) (h' := HP h0 (pre ++ [D (es ++ [entL r t] ++ ents L (t + 3)).toArray (n + 1 + L.length)])) ?_ (by simp only [List.length_cons]; omega) (by simp only [List.length_cons]; omega) (by simp only [ents, List.append_assoc, List.singleton_append, List.length_cons]; congr 4; omega)
    refine' At.bind (a := ForInStep.yield PUnit.unit) (h' := HP h0 (pre ++ [D (es ++ [entL r t]).toArray (n + 1)])) (t' := t + 3) (pos' := dp) ?_ ih
    show At C _ (1 + (2 + (10 + 0))) _ _ _ _ _ _ _
    refine At.bind At.const_int ?_
    refine At.bind (At.holding val_at) ?_
    refine At.bind (At.holding (At.set_new (Nat.le_trans hn (Nat.le_add_right _ _)) hp_last (fun e he => ha.1 e (by simpa using he) r (.head _)) (by rw [List.size_toArray]; simp only [List.length_cons] at hz; omega) (h' := HP h0 (pre ++ [D (es ++ [entL r t]).toArray (n + 1)])) ?_ ?_)) At.pure
    · rw [List.push_toArray]; exact hp_last
    · rw [hp_lastU, List.push_toArray]; rfl

theorem subDict_long (h0 : Heap) (pre : List Obj) (env : Env) (dp : Pos) (hn : C.n0 ≤ h0.objs.size) (L : List Row) (t : Nat) (hL : 15 < L.length) (hz : L.length ≤ 99999) (ha : Apart [] L) :
    At C (subDict (L.map (pairOf env dp))) (2 + 13 * L.length) (HP h0 pre) t dp (h0.objs.size + pre.length) (HP h0 (pre ++ [D (ents L t).toArray L.length])) (t + 3 * L.length) dp := by
  unfold subDict
  refine At.cast (k := 1 + (1 + 13 * L.length + 0)) ?_ (by omega) rfl rfl
  have e0 : (HP h0 pre).push { cls := .type "dict", data := .dict #[] } = HP h0 (pre ++ [D ([] : List DictEntry).toArray 0]) := HP.push
  refine' At.bind (a := h0.objs.size + pre.length) (h' := HP h0 (pre ++ [D ([] : List DictEntry).toArray 0])) (t' := t) (pos' := dp) ?_ ?_
  · have := At.alloc (C := C) (h := HP h0 pre) (t := t) (pos := dp) (o := { cls := .type "dict", data := .dict #[] })
    rw [HP.size, e0] at this
    exact this
  · refine At.bind (a := PUnit.unit) (At.holding ?_) At.pure
    refine At.ite_neg (by rw [List.length_map]; omega) ?_
    refine At.bind At.rule ?_
    refine At.cast (k := 13 * L.length + 0) (At.bind (long_loop h0 pre env dp hn L [] 0 t (by simpa using hz) ha) At.pure) rfl rfl ?_
    simp

theorem evalPairs_at (env : Env) (dp : Pos) : ∀ (L : List Row) (h : Heap) (t : Nat), At C (evalPairs (L.map (pairOf env dp))) (3 * L.length) h t dp (vals L t) h (t + 2 * L.length) dp
  | [], h, t => by
    rw [List.map_nil]
    unfold evalPairs
    exact At.pure
  | r :: L, h, t => by
    rw [List.map_cons]
    unfold evalPairs
    have ih := evalPairs_at env dp L h (t + 2)
    refine At.cast (k := 1 + (2 + (3 * L.length + 0))) (t' := t + 2 + 2 * L.length) ?_ (by simp only [List.length_cons]; omega) (by simp only [List.length_cons]; omega) rfl
    refine At.bind key_at ?_
    refine At.bind (At.holding val_at) ?_
    exact At.bind (At.holding ih) At.pure

theorem short_loop (h0 : Heap) (pre : List Obj) (dp : Pos) (hn : C.n0 ≤ h0.objs.size) : ∀ (L : List Row) (es : List DictEntry) (n u t : Nat), es.length + L.length ≤ 99999 → Apart es L →
    At C (forIn (vals L u) PUnit.unit fun x _ => match x with
        | (k, v) => do
          dictSet (h0.objs.size + pre.length) k v
          pure (ForInStep.yield PUnit.unit)) (10 * L.length) (HP h0 (pre ++ [D es.toArray n])) t dp PUnit.unit (HP h0 (pre ++ [D (es ++ entsS L u).toArray (n + L.length)])) (t + L.length) dp
  | [], es, n, u, t, _, _ => by
    show At C (forIn ([] : List (Value × Value)) PUnit.unit _) _ _ _ _ _ _ _ _
    rw [List.forIn_nil]
    exact (At.pure).cast rfl rfl (by simp [entsS])
  | r :: L, es, n, u, t, hz, ha => by
    show At C (forIn ((.int r.1 u, .str r.2.1 (u + 1)) :: vals L (u + 2)) PUnit.unit _) _ _ _ _ _ _ _ _
    rw [List.forIn_cons]
    have hz' : (es ++ [entL r u]).length + L.length ≤ 99999 := by
      rw [List.length_append]
      simp only [List.length_cons, List.length_nil] at hz ⊢; omega
    have ih := short_loop h0 pre dp hn L (es ++ [entL r u]) (n + 1) (u + 2) (t + 1) hz' ha.next
    refine At.cast (k := 10 + 10 * L.length) (t' := t + 1 + L.length) (h' := HP h0 (pre ++ [D (es ++ [entL r u] ++ entsS L (u + 2)).toArray (n + 1 + L.length)])) ?_ (by simp only [List.length_cons]; omega) (by simp only [List.length_cons]; omega) (by simp only [entsS, entL, List.append_assoc, List.singleton_append, List.length_cons]; congr 4; omega)
    refine' At.bind (a := ForInStep.yield PUnit.unit) (h' := HP h0 (pre ++ [D (es ++ [entL r u]).toArray (n + 1)])) (t' := t + 1) (pos' := dp) ?_ ih
    show At C _ (10 + 0) _ _ _ _ _ _ _
    refine At.bind (At.set_new (Nat.le_trans hn (Nat.le_add_right _ _)) hp_last (fun e he => ha.1 e (by simpa using he) r (.head _)) (by rw [List.size_toArray]; simp only [List.length_cons] at hz; omega) (h' := HP h0 (pre ++ [D (es ++ [entL r u]).toArray (n + 1)])) ?_ ?_) At.pure
    · rw [List.push_toArray]; exact hp_last
    · rw [hp_lastU, List.push_toArray]; rfl

theorem subDict_short (h0 : Heap) (pre : List Obj) (env : Env) (dp : Pos) (hn : C.n0 ≤ h0.objs.size) (L : List Row) (t : Nat) (hL : L.length ≤ 15) (ha : Apart [] L) :
    At C (subDict (L.map (pairOf env dp))) (1 + 13 * L.length) (HP h0 pre) t dp (h0.objs.size + pre.length) (HP h0 (pre ++ [D (entsS L t).toArray L.length])) (t + 3 * L.length) dp := by
  unfold subDict
  refine At.cast (k := 1 + (3 * L.length + (10 * L.length + 0) + 0)) (t' := t + 2 * L.length + L.length) ?_ (by omega) (by omega) rfl
  have e0 : (HP h0 pre).push { cls := .type "dict", data := .dict #[] } = HP h0 (pre ++ [D ([] : List DictEntry).toArray 0]) := HP.push
  refine' At.bind (a := h0.objs.size + pre.length) (h' := HP h0 (pre ++ [D ([] : List DictEntry).toArray 0])) (t' := t) (pos' := dp) ?_ ?_
  · have := At.alloc (C := C) (h := HP h0 pre) (t := t) (pos := dp) (o := { cls := .type "dict", data := .dict #[] })
    rw [HP.size, e0] at this
    exact this
  · refine At.bind (a := PUnit.unit) (At.holding ?_) At.pure
    refine At.ite_pos (by rw [List.length_map]; omega) ?_
    refine At.bind (evalPairs_at env dp L _ t) ?_
    refine At.holding ?_
    refine At.bind (At.cast (short_loop h0 pre dp hn L [] 0 t (t + 2 * L.length) (by simp only [List.length_nil]; omega) ha) rfl rfl ?_) At.pure
    simp

theorem dict_iter_lookup : typeLookup (.type "dict") "__iter__" = (pure (some (.builtin "dict.__iter__")) : Sem (Option Value)) := by rw [typeLookup_type, builtinLookup_eq_fast]; kernel_rfl
theorem dict_sub_dict : isSubtype (.type "dict") (.type "dict") = (pure true : Sem Bool) := by rw [isSubtype_type]; kernel_rfl
theorem At.typeOf_dict {a : Addr} {es : Array DictEntry} {n : Nat} (ho : h.get? a = some (D es n)) : At C (typeOf (.ref a)) 1 h t pos (.type "dict") h t pos := by
  show At C _ (1 + 0) _ _ _ _ _ _ _
  exact At.bind (At.loadPart ho) At.pure

theorem range_loop (h0 : Heap) (rest : List Obj) (F : List DictEntry) (f : Nat → PUnit → Sem (ForInStep PUnit))
    (hf : ∀ (i : Nat) (e : DictEntry) (es : List DictEntry) (n : Nat), F[i]? = some e → (∀ x ∈ es, x.hash ≠ e.hash) → es.length + 1 ≤ 99999 →
      At C (f i PUnit.unit) 6 (HP h0 (D es.toArray n :: rest)) t pos (ForInStep.yield PUnit.unit) (HP h0 (D (es ++ [e]).toArray (n + 1) :: rest)) t pos) :
    ∀ (k i : Nat) (es : List DictEntry) (n : Nat), i + k = F.length → (∀ e ∈ es, ∀ x ∈ F.drop i, e.hash ≠ x.hash) → (F.drop i).Pairwise (fun a b => a.hash ≠ b.hash) → es.length + k ≤ 99999 →
      At C (forIn (List.range' i k) PUnit.unit f) (6 * k) (HP h0 (D es.toArray n :: rest)) t pos PUnit.unit (HP h0 (D (es ++ F.drop i).toArray (n + k) :: rest)) t pos
  | 0, i, es, n, hi, _, _, _ => by
    rw [List.range'_zero, List.forIn_nil, List.drop_of_length_le (by omega), List.append_nil]
    exact At.pure
  | k + 1, i, es, n, hi, ha, hp, hz => by
    have hi' : i < F.length := by omega
    have e0 : F[i]? = some F[i] := List.getElem?_eq_getElem hi'
    rw [List.range'_succ, List.forIn_cons]
    rw [List.drop_eq_getElem_cons hi'] at ha hp ⊢
    have ih := range_loop h0 rest F f hf k (i + 1) (es ++ [F[i]]) (n + 1) (by omega) (fun e he x hx => by
      rcases List.mem_append.mp he with he | he
      · exact ha e he x (.tail _ hx)
      · rw [List.mem_singleton.mp he]; exact (List.pairwise_cons.mp hp).1 x hx) (List.pairwise_cons.mp hp).2 (by rw [List.length_append]; simp only [List.length_cons, List.length_nil]; omega)
    refine At.cast (k := 6 + 6 * k) (At.bind (hf i F[i] es n e0 (fun x hx => ha x hx _ (.head _)) (by omega)) ih) (by omega) rfl ?_
    rw [List.append_assoc, List.singleton_append]
    congr 3; omega

theorem hp_first {h0 : Heap} {rest : List Obj} {es : Array DictEntry} {n : Nat} : (HP h0 (D es n :: rest)).get? h0.objs.size = some (D es n) :=
  HP.get (i := 0) rfl rfl
theorem hp_firstU {h0 : Heap} {rest : List Obj} {es : Array DictEntry} {n : Nat} {e : DictEntry} : (HP h0 (D es n :: rest)).update h0.objs.size (Obj.mapDictKeys (·.push e)) = HP h0 (D (es.push e) (n + 1) :: rest) :=
  HP.upd (i := 0)

noncomputable def IntEnt (e : DictEntry) : Prop := ∃ k u, e.key = .int k u ∧ e.hash = hashInt k

theorem merge_at (h0 : Heap) (rest : List Obj) (F : List DictEntry) (m j : Nat) (hj : rest[j]? = some (D F.toArray m)) (hF : ∀ e ∈ F, IntEnt e) (es : List DictEntry) (n : Nat) (hes : es ≠ [])
    (ha : ∀ e ∈ es, ∀ x ∈ F, e.hash ≠ x.hash) (hp : F.Pairwise (fun a b => a.hash ≠ b.hash)) (hz : es.length + F.length ≤ 99999) (hn : C.n0 ≤ h0.objs.size) (hs : sysModules < h0.objs.size) :
    At C (mergeMapping h0.objs.size (.ref (h0.objs.size + (j + 1))) false) (5 + 6 * F.length) (HP h0 (D es.toArray n :: rest)) t pos () (HP h0 (D (es ++ F).toArray (n + F.length) :: rest)) t pos := by
  have hget : ∀ (es' : Array DictEntry) (n' : Nat), (HP h0 (D es' n' :: rest)).get? (h0.objs.size + (j + 1)) = some (D F.toArray m) := fun es' n' => HP.get (i := j + 1) (by simpa using hj) rfl
  have hne : (h0.objs.size + (j + 1) == sysModules) = false := beq_eq_false_iff_ne.mpr fun e => absurd hs (by rw [← e]; exact Nat.not_lt.mpr (Nat.le_add_right _ _))
  unfold mergeMapping
  refine At.cast (k := 1 + (1 + (0 + (1 + (1 + (1 + (6 * F.length + 0))))))) ?_ (by omega) rfl rfl
  refine' At.bind (a := true) (h' := HP h0 (D es.toArray n :: rest)) (t' := t) (pos' := pos) ?_ ?_
  · show At C _ (1 + 0) _ _ _ _ _ _ _
    refine At.bind (At.typeOf_dict (hget _ _)) ?_
    rw [dict_sub_dict]
    exact At.pure
  refine At.ite_pos rfl ?_
  refine' At.bind (a := some (.builtin "dict.__iter__")) (h' := HP h0 (D es.toArray n :: rest)) (t' := t) (pos' := pos) ?_ ?_
  · show At C _ (1 + 0) _ _ _ _ _ _ _
    refine At.bind (At.typeOf_dict (hget _ _)) ?_
    rw [dict_iter_lookup]
    exact At.pure
  refine' At.bind (a := true) (h' := HP h0 (D es.toArray n :: rest)) (t' := t) (pos' := pos) ?_ ?_
  · have e : ((some (Value.builtin "dict.__iter__")) == (some (Value.builtin "dict.__iter__"))) = true := beq_self_eq_true _
    rw [e]
    exact At.pure
  dsimp only
  refine At.ite_neg (by rw [hne]; exact Bool.false_ne_true) ?_
  refine At.bind (At.entries hp_first) ?_
  refine At.ite_neg (by cases es with | nil => exact absurd rfl hes | cons a b => exact Bool.false_ne_true) ?_
  refine At.bind (At.entries (hget _ _)) ?_
  refine At.bind (At.epoch (hget _ _)) ?_
  rw [List.size_toArray, List.range_eq_range']
  refine At.bind (range_loop h0 rest F _ ?_ F.length 0 es n (by omega) (by simpa using ha) (by simpa using hp) hz) ?_
  · intro i e es' n' he hno hz'
    obtain ⟨k, u, hk, hh⟩ := hF e (List.mem_of_getElem? he)
    show At C _ (1 + (4 + (1 + 0))) _ _ _ _ _ _ _
    refine At.bind (At.entries (hget _ _)) ?_
    have he' : F.toArray[i]? = some e := by simpa using he
    rw [he']
    dsimp only
    refine' At.bind (a := PUnit.unit) (h' := HP h0 (D (es' ++ [e]).toArray (n' + 1) :: rest)) (t' := t) (pos' := pos) (At.holding ?_) ?_
    · refine At.ite_neg Bool.false_ne_true ?_
      have ee : e = ⟨hashInt k, .int k u, e.val⟩ := by rw [← hh, ← hk]
      rw [hk, hh]
      refine At.put_new hn hp_first (fun x hx => by rw [← hh]; exact hno x (by simpa using hx)) (by rw [List.size_toArray]; omega) (h' := HP h0 (D (es' ++ [e]).toArray (n' + 1) :: rest)) ?_ ?_
      · rw [List.push_toArray, ← ee]; exact hp_first
      · rw [hp_firstU, List.push_toArray, ← ee]
    · refine At.bind (At.epoch (hget _ _)) ?_
      exact At.ite_neg (by simp) At.pure
  · rw [List.drop_zero]
    exact At.pure
end Mine
end
section
open PySem PySem.W PyProof.Rows
set_option maxRecDepth 100000
namespace Mine
variable {α β : Type} {C : TC} {h h' h'' : Heap} {t t' t'' : Nat} {pos pos' pos'' : Pos}

noncomputable def hk (r : Row) : Int := hashInt r.1
theorem ents_hash : ∀ (L : List Row) (t : Nat), (ents L t).map (·.hash) = L.map hk
  | [], _ => rfl
  | r :: L, t => by rw [ents, List.map_cons, List.map_cons, ents_hash L (t + 3)]; rfl
theorem entsS_hash : ∀ (L : List Row) (t : Nat), (entsS L t).map (·.hash) = L.map hk
  | [], _ => rfl
  | r :: L, t => by rw [entsS, List.map_cons, List.map_cons, entsS_hash L (t + 2)]; rfl
theorem ents_len : ∀ (L : List Row) (t : Nat), (ents L t).length = L.length
  | [], _ => rfl
  | r :: L, t => by rw [ents, List.length_cons, List.length_cons, ents_len L (t + 3)]
theorem entsS_len : ∀ (L : List Row) (t : Nat), (entsS L t).length = L.length
  | [], _ => rfl
  | r :: L, t => by rw [entsS, List.length_cons, List.length_cons, entsS_len L (t + 2)]
theorem ents_int : ∀ (L : List Row) (t : Nat), ∀ e ∈ ents L t, IntEnt e
  | [], _, _, he => nomatch he
  | r :: L, t, e, he => by
    rcases List.mem_cons.mp he with rfl | he
    · exact ⟨_, _, rfl, rfl⟩
    · exact ents_int L _ e he
theorem entsS_int : ∀ (L : List Row) (t : Nat), ∀ e ∈ entsS L t, IntEnt e
  | [], _, _, he => nomatch he
  | r :: L, t, e, he => by
    rcases List.mem_cons.mp he with rfl | he
    · exact ⟨_, _, rfl, rfl⟩
    · exact entsS_int L _ e he
theorem ents_app : ∀ (L M : List Row) (t : Nat), ents (L ++ M) t = ents L t ++ ents M (t + 3 * L.length)
  | [], M, t => by simp [ents]
  | r :: L, M, t => by
    show _ :: ents (L ++ M) (t + 3) = _ :: (ents L (t + 3) ++ ents M (t + 3 * (L.length + 1)))
    rw [ents_app L M (t + 3)]
    congr 3; omega

theorem apart_of {L : List Row} (h : (L.map hk).Nodup) : Apart [] L := ⟨fun _ he => (nomatch he), (List.pairwise_map.mp h).imp fun h => h⟩
theorem far_of {es F : List DictEntry} (h : (es.map (·.hash) ++ F.map (·.hash)).Nodup) : ∀ e ∈ es, ∀ x ∈ F, e.hash ≠ x.hash := fun e he x hx q =>
  (List.nodup_append.mp h).2.2 _ (List.mem_map_of_mem he) _ (List.mem_map_of_mem hx) q
theorem pair_of {F : List DictEntry} (h : (F.map (·.hash)).Nodup) : F.Pairwise (fun a b => a.hash ≠ b.hash) := (List.pairwise_map.mp h).imp fun h => h

/-- the next 17 rows: a dict of their own, laid into the first -/
theorem flush_at (h0 : Heap) (mid : List Obj) (env : Env) (dp : Pos) (hn : C.n0 ≤ h0.objs.size) (hs : sysModules < h0.objs.size) (L : List Row) (hL : L.length = 17) (es : List DictEntry) (n t : Nat) (hes : es ≠ [])
    (hd : (es.map (·.hash) ++ L.map hk).Nodup) (hz : es.length + L.length ≤ 99999) (x : Value → Sem Unit) :
    At C (do
      let sub ← holding [Value.ref h0.objs.size] (subDict (L.map (pairOf env dp)))
      (holding [Value.ref h0.objs.size, Value.ref sub] (mergeMapping h0.objs.size (.ref sub) false)).onRaise x
      pure (some h0.objs.size)) 330 (HP h0 (D es.toArray n :: mid)) t dp (some h0.objs.size) (HP h0 (D (es ++ ents L t).toArray (n + 17) :: (mid ++ [D (ents L t).toArray 17]))) (t + 51) dp := by
  have hd2 := (List.nodup_append.mp hd).2.1
  have h1 := subDict_long (C := C) h0 (D es.toArray n :: mid) env dp hn L t (by omega) (by omega) (apart_of hd2)
  have h2 := merge_at (C := C) (t := t + 51) (pos := dp) h0 (mid ++ [D (ents L t).toArray 17]) (ents L t) 17 mid.length (by simp) (ents_int L t) es n hes
    (far_of (by rw [ents_hash]; exact hd)) (pair_of (by rw [ents_hash]; exact hd2)) (by rw [ents_len]; exact hz) hn hs
  rw [ents_len, hL] at h2
  rw [hL] at h1
  refine At.cast (k := 223 + (107 + 0)) (At.bind (At.holding h1) ?_) (by omega) rfl rfl
  exact At.bind (At.onRaise (At.holding h2)) At.pure

/-- the last rows, 15 or fewer -/
theorem flush_last (h0 : Heap) (mid : List Obj) (env : Env) (dp : Pos) (hn : C.n0 ≤ h0.objs.size) (hs : sysModules < h0.objs.size) (L : List Row) (hL : L.length ≤ 15) (es : List DictEntry) (n t : Nat) (hes : es ≠ [])
    (hd : (es.map (·.hash) ++ L.map hk).Nodup) (hz : es.length + L.length ≤ 99999) (x : Value → Sem Unit) :
    At C (do
      let sub ← holding [Value.ref h0.objs.size] (subDict (L.map (pairOf env dp)))
      (holding [Value.ref h0.objs.size, Value.ref sub] (mergeMapping h0.objs.size (.ref sub) false)).onRaise x
      pure (some h0.objs.size)) (6 + 19 * L.length) (HP h0 (D es.toArray n :: mid)) t dp (some h0.objs.size) (HP h0 (D (es ++ entsS L t).toArray (n + L.length) :: (mid ++ [D (entsS L t).toArray L.length]))) (t + 3 * L.length) dp := by
  have hd2 := (List.nodup_append.mp hd).2.1
  have h1 := subDict_short (C := C) h0 (D es.toArray n :: mid) env dp hn L t hL (apart_of hd2)
  have h2 := merge_at (C := C) (t := t + 3 * L.length) (pos := dp) h0 (mid ++ [D (entsS L t).toArray L.length]) (entsS L t) L.length mid.length (by simp) (entsS_int L t) es n hes
    (far_of (by rw [entsS_hash]; exact hd)) (pair_of (by rw [entsS_hash]; exact hd2)) (by rw [entsS_len]; exact hz) hn hs
  rw [entsS_len] at h2
  refine At.cast (k := (1 + 13 * L.length) + (5 + 6 * L.length + 0)) (At.bind (At.holding h1) ?_) (by omega) rfl rfl
  exact At.bind (At.onRaise (At.holding h2)) At.pure

section
variable (env : Env) (dp : Pos) (flush : List (Sem Value × Sem Value) → Option Addr → Sem (Option Addr)) (f : Option (Sem Value) × Sem Value → Option Addr × List (Sem Value × Sem Value) → Sem (ForInStep (Option Addr × List (Sem Value × Sem Value))))
  (hf : ∀ (r : Row) (main : Option Addr) (run : List (Sem Value × Sem Value)), f (itemOf3 env dp r) (main, run) =
    if ((run ++ [pairOf env dp r]).length == 17) = true then (flush (run ++ [pairOf env dp r]) main >>= fun m => pure (ForInStep.yield (m, []))) else pure (ForInStep.yield (main, run ++ [pairOf env dp r])))
include hf
theorem chunk17 : ∀ (l : List Row) (run : List (Sem Value × Sem Value)) (main : Option Addr) (rest : List (Option (Sem Value) × Sem Value)), run.length + l.length = 17 → l ≠ [] →
    forIn (l.map (itemOf3 env dp) ++ rest) (main, run) f = (flush (run ++ l.map (pairOf env dp)) main >>= fun m => forIn rest (m, []) f)
  | [], _, _, _, _, h => absurd rfl h
  | [r], run, main, rest, hl, _ => by
    rw [List.map_cons, List.map_nil, List.cons_append, List.nil_append, List.forIn_cons, hf, if_pos (by simpa using hl), bind_assoc]
    simp only [pure_bind]
    rfl
  | r :: s :: l, run, main, rest, hl, _ => by
    rw [List.map_cons, List.cons_append, List.forIn_cons, hf, if_neg (by simp only [List.length_append, List.length_cons, List.length_nil, beq_iff_eq] at hl ⊢; omega), pure_bind]
    dsimp only
    rw [chunk17 (s :: l) (run ++ [pairOf env dp r]) main rest (by simp only [List.length_append, List.length_cons, List.length_nil] at hl ⊢; omega) (by simp)]
    rw [List.append_assoc]
    rfl
theorem chunkLast : ∀ (l : List Row) (run : List (Sem Value × Sem Value)) (main : Option Addr), run.length + l.length < 17 →
    forIn (l.map (itemOf3 env dp)) (main, run) f = pure (main, run ++ l.map (pairOf env dp))
  | [], run, main, _ => by rw [List.map_nil, List.forIn_nil, List.map_nil, List.append_nil]
  | r :: l, run, main, hl => by
    rw [List.map_cons, List.forIn_cons, hf, if_neg (by simp only [List.length_append, List.length_cons, List.length_nil, beq_iff_eq] at hl ⊢; omega), pure_bind]
    dsimp only
    rw [chunkLast l (run ++ [pairOf env dp r]) main (by simp only [List.length_append, List.length_cons, List.length_nil] at hl ⊢; omega)]
    rw [List.append_assoc]
    rfl
end

noncomputable def subs : List (List Row) → Nat → List Obj
  | [], _ => []
  | l :: Ls, t => D (ents l t).toArray 17 :: subs Ls (t + 51)

theorem chunks_at (h0 : Heap) (env : Env) (dp : Pos) (hn : C.n0 ≤ h0.objs.size) (hs : sysModules < h0.objs.size) (last : List Row) (hlast : last.length ≤ 15)
    (flush : List (Sem Value × Sem Value) → Option Addr → Sem (Option Addr)) (f : Option (Sem Value) × Sem Value → Option Addr × List (Sem Value × Sem Value) → Sem (ForInStep (Option Addr × List (Sem Value × Sem Value))))
    (hf : ∀ (r : Row) (main : Option Addr) (run : List (Sem Value × Sem Value)), f (itemOf3 env dp r) (main, run) =
      if ((run ++ [pairOf env dp r]).length == 17) = true then (flush (run ++ [pairOf env dp r]) main >>= fun m => pure (ForInStep.yield (m, []))) else pure (ForInStep.yield (main, run ++ [pairOf env dp r])))
    (x : Addr → Value → Sem Unit)
    (hfl : ∀ (l : List Row) (d : Addr), l ≠ [] → flush (l.map (pairOf env dp)) (some d) = (do
      let sub ← holding [Value.ref d] (subDict (l.map (pairOf env dp)))
      (holding [Value.ref d, Value.ref sub] (mergeMapping d (.ref sub) false)).onRaise (x d)
      pure (some d))) :
    ∀ (Ls : List (List Row)) (es : List DictEntry) (n : Nat) (mid : List Obj) (t : Nat), (∀ l ∈ Ls, l.length = 17) → es ≠ [] → (es.map (·.hash) ++ Ls.flatten.map hk).Nodup → es.length + Ls.flatten.length ≤ 99999 →
      At C (forIn (Ls.flatten.map (itemOf3 env dp) ++ last.map (itemOf3 env dp)) (some h0.objs.size, []) f) (330 * Ls.length) (HP h0 (D es.toArray n :: mid)) t dp (some h0.objs.size, last.map (pairOf env dp))
        (HP h0 (D (es ++ ents Ls.flatten t).toArray (n + 17 * Ls.length) :: (mid ++ subs Ls t))) (t + 51 * Ls.length) dp
  | [], es, n, mid, t, _, _, _, _ => by
    rw [List.flatten_nil, List.map_nil, List.nil_append, chunkLast env dp flush f hf last [] _ (by simp only [List.length_nil]; omega)]
    exact At.cast At.pure (by simp) (by simp) (by simp [ents, subs])
  | l :: Ls, es, n, mid, t, hl, hes, hd, hz => by
    have h17 : l.length = 17 := hl l (.head _)
    have hne : l ≠ [] := fun e => by rw [e] at h17; cases h17
    rw [List.flatten_cons] at hd hz ⊢
    rw [List.map_append] at hd
    rw [List.length_append] at hz
    rw [List.map_append, List.append_assoc, chunk17 env dp flush f hf l [] _ _ (by simp only [List.length_nil]; omega) hne, List.nil_append, hfl l _ hne]
    rw [← List.append_assoc] at hd
    have h1 := flush_at (C := C) h0 mid env dp hn hs l h17 es n t hes (List.nodup_append.mp hd).1 (by omega) (x h0.objs.size)
    have ih := chunks_at h0 env dp hn hs last hlast flush f hf x hfl Ls (es ++ ents l t) (n + 17) (mid ++ [D (ents l t).toArray 17]) (t + 51) (fun l' h' => hl l' (.tail _ h')) (by simp [hes])
      (by rw [List.map_append, ents_hash]; exact hd) (by rw [List.length_append, ents_len]; omega)
    refine At.cast (At.bind h1 ih) (by rw [List.length_cons]; omega) (by rw [List.length_cons]; omega) ?_
    rw [ents_app, h17, List.append_assoc, List.append_assoc, List.length_cons, subs, List.singleton_append]
    congr 3; omega

noncomputable def flushF (run : List (Sem Value × Sem Value)) (main : Option Addr) : Sem (Option Addr) :=
  if run.isEmpty = true then pure main
  else match main with
    | none => do
      let d ← subDict run
      pure (some d)
    | some d => do
      let sub ← holding [Value.ref d] (subDict run)
      (holding [Value.ref d, Value.ref sub] (mergeMapping d (.ref sub) false)).onRaise fun x => do
        let _ ← holding [Value.ref d, x] (runValue (Code.builtin "proto.let_go" {}))
        pure ()
      pure (some d)
noncomputable def goX (d : Addr) (x : Value) : Sem Unit := do
  let _ ← holding [Value.ref d, x] (runValue (Code.builtin "proto.let_go" {}))
  pure ()
theorem flushF_none {run : List (Sem Value × Sem Value)} (h : run.isEmpty = false) : flushF run none = (do
    let d ← subDict run
    pure (some d)) := by
  unfold flushF
  rw [if_neg (by rw [h]; exact Bool.false_ne_true)]
theorem flushF_some {run : List (Sem Value × Sem Value)} {d : Addr} (h : run.isEmpty = false) : flushF run (some d) = (do
    let sub ← holding [Value.ref d] (subDict run)
    (holding [Value.ref d, Value.ref sub] (mergeMapping d (.ref sub) false)).onRaise (goX d)
    pure (some d)) := by
  unfold flushF
  rw [if_neg (by rw [h]; exact Bool.false_ne_true)]
  rfl
theorem map_ne {env : Env} {dp : Pos} {l : List Row} (h : l ≠ []) : (l.map (pairOf env dp)).isEmpty = false := by
  cases l with
  | nil => exact absurd rfl h
  | cons a b => rfl

theorem display_at (h0 : Heap) (env : Env) (dp : Pos) (hn : C.n0 ≤ h0.objs.size) (hs : sysModules < h0.objs.size) (first : List Row) (Ls : List (List Row)) (last : List Row) (t : Nat)
    (hfirst : first.length = 17) (hLs : ∀ l ∈ Ls, l.length = 17) (h1 : 0 < last.length) (h2 : last.length ≤ 15) (hd : ((first ++ Ls.flatten) ++ last).map hk |>.Nodup) (hz : ((first ++ Ls.flatten) ++ last).length ≤ 99999) :
    At C (dictDisplay (((first ++ Ls.flatten) ++ last).map (itemOf3 env dp))) (223 + (330 * Ls.length + (6 + 19 * last.length))) h0 t dp (.ref h0.objs.size)
      (HP h0 (D (ents (first ++ Ls.flatten) t ++ entsS last (t + 51 + 51 * Ls.length)).toArray (17 + 17 * Ls.length + last.length) :: (subs Ls (t + 51) ++ [D (entsS last (t + 51 + 51 * Ls.length)).toArray last.length])))
      (t + 51 + 51 * Ls.length + 3 * last.length) dp := by
  unfold dictDisplay
  dsimp only
  have hfn : first ≠ [] := fun e => by rw [e] at hfirst; cases hfirst
  have hln : last ≠ [] := fun e => by rw [e] at h1; cases h1
  rw [List.map_append] at hd
  rw [List.length_append] at hz
  have hd1 := (List.nodup_append.mp hd).1
  rw [List.map_append] at hd1
  have hdf := (List.nodup_append.mp hd1).1
  have hz1 := hz
  rw [List.length_append] at hz1
  have s1 := subDict_long (C := C) h0 [] env dp hn first t (by omega) (by omega) (apart_of hdf)
  rw [HP.nil, hfirst] at s1
  have s2 := fun flush f hf x hfl => chunks_at (C := C) h0 env dp hn hs last h2 flush f hf x hfl Ls (ents first t) 17 [] (t + 51) hLs (by cases first with | nil => exact absurd rfl hfn | cons a b => simp [ents]) (by rw [ents_hash]; exact hd1) (by rw [ents_len]; omega)
  have s3 := fun x => flush_last (C := C) h0 (subs Ls (t + 51)) env dp hn hs last h2 (ents (first ++ Ls.flatten) t) (17 + 17 * Ls.length) (t + 51 + 51 * Ls.length) (by cases first with | nil => exact absurd rfl hfn | cons a b => simp [ents])
    (by rw [ents_hash, List.map_append]; rw [List.map_append] at hd; exact hd) (by rw [ents_len]; omega) x
  have e17 : ents (first ++ Ls.flatten) t = ents first t ++ ents Ls.flatten (t + 51) := by rw [ents_app, hfirst]
  rw [← e17] at s2
  rw [List.map_append, List.map_append, List.append_assoc]
  refine At.cast (k := 223 + 330 * Ls.length + (6 + 19 * last.length + 0)) ?_ (by omega) rfl rfl
  refine' At.bind (a := (some h0.objs.size, last.map (pairOf env dp))) (h' := HP h0 (D (ents (first ++ Ls.flatten) t).toArray (17 + 17 * Ls.length) :: subs Ls (t + 51))) (t' := t + 51 + 51 * Ls.length) (pos' := dp) ?_ ?_
  · rw [chunk17 env dp flushF _ (fun r main run => rfl) first [] none _ (by simpa using hfirst) hfn, List.nil_append, flushF_none (map_ne hfn)]
    refine At.bind (k := 223) (a := some h0.objs.size) (At.cast (k := 223 + 0) (At.bind s1 At.pure) rfl rfl rfl) ?_
    exact s2 flushF _ (fun r main run => rfl) goX (fun l d hl => flushF_some (map_ne hl))
  · refine' At.bind (a := some h0.objs.size) (h' := HP h0 (D (ents (first ++ Ls.flatten) t ++ entsS last (t + 51 + 51 * Ls.length)).toArray (17 + 17 * Ls.length + last.length) :: (subs Ls (t + 51) ++ [D (entsS last (t + 51 + 51 * Ls.length)).toArray last.length]))) (t' := t + 51 + 51 * Ls.length + 3 * last.length) (pos' := dp) ?_ At.pure
    show At C (flushF (last.map (pairOf env dp)) (some h0.objs.size)) _ _ _ _ _ _ _ _
    rw [flushF_some (map_ne hln)]
    exact s3 _
end Mine
end
section
open PySem PySem.W PyProof.Rows
set_option maxRecDepth 100000
namespace Mine
noncomputable def stAt (i : Nat) : Stmt := (PySem.Challenge.pw_wk0036_01.main.body[i]?).getD (.Pass ⟨0, 0, 0, 0⟩)
noncomputable def parAt (i : Nat) : Arguments := match stAt i with
  | .FunctionDef _ a _ _ _ _ _ _ _ _ => a
  | _ => ⟨[], [], none, [], [], none, []⟩
noncomputable def bodyAt (i : Nat) : List Stmt := match stAt i with
  | .FunctionDef _ _ b _ _ _ _ _ _ _ => b
  | _ => []
noncomputable def scoAt (i : Nat) : Scope := match stAt i with
  | .FunctionDef _ _ _ _ _ _ s _ _ _ => s
  | _ => ⟨.module, [], false, false, []⟩
/-- the rows of the statement b3_exceptions = {..} -/
noncomputable def rowOf (k : Option Expr) (v : Expr) : Row := match k, v with
  | some (.Constant (.int i) _ p), .Constant (.str x) _ q => (i, x, p, q)
  | _, _ => (0, ⟨#[]⟩, ⟨0, 0, 0, 0⟩, ⟨0, 0, 0, 0⟩)
noncomputable def b3rows : List Row := match stAt 9 with
  | .Assign _ (.Dict ks vs _) _ => List.zipWith rowOf ks vs
  | _ => []
noncomputable def b3first : List Row := b3rows.take 17
noncomputable def b3mid : List (List Row) := (List.range 37).map fun i => (b3rows.drop (17 * (i + 1))).take 17
noncomputable def b3last : List Row := b3rows.drop 646
noncomputable def b3ents : List DictEntry := ents (b3first ++ b3mid.flatten) 290 ++ entsS b3last 2228
noncomputable def b3sub (i : Nat) : List DictEntry := ents ((b3rows.drop (17 * (i + 1))).take 17) (341 + 51 * i)

/-- the top's environment -/
noncomputable def env1 : Env := { scope := PySem.Challenge.pw_wk0036_01.main.scope, locals := mainNs, globals := mainNs, cells := [], code := .ref 13, frame := some 14 }
noncomputable def z0_11 (_ : Params) : Obj := ⟨(.type "tuple"), none, (.seq #[] 0), #[]⟩
noncomputable def z0_12 (_ : Params) : Obj := ⟨.none, none, (.fields #[]), #[]⟩
noncomputable def z0_13 (_ : Params) : Obj := ⟨(.type "code"), none, (.fields #[(.str (Str.mk #[60, 109, 111, 100, 117, 108, 101, 62]) 182), (.str (Str.mk #[60, 109, 111, 100, 117, 108, 101, 62]) 183), (.str (Str.mk #[47, 99, 108, 97, 105, 109, 47, 99, 117, 116, 46, 112, 121]) 184), (.int 1 0), (.int 0 0), (.int 0 0), (.int 0 0), (.int 0 0), (.ref 11), (.bool false), (.int 181 0), (.ref 12), .none, .none, .none, .none, (.int 185 0), (.int 1 0), (.str (Str.mk #[47, 99, 108, 97, 105, 109, 47, 99, 117, 116, 46, 112, 121]) 186)]), #[]⟩
noncomputable def z0_14 (_ : Params) : Obj := ⟨(.type "frame"), none, .plain, #[some (.ref 13), some (.ref 3), some (.ref 3), none, some (.str (Str.mk #[95, 95, 109, 97, 105, 110, 95, 95]) 164), none, some (.ref 0)]⟩
noncomputable def z0_tree (P : Params) : BT := (.node (PySem.W.boot_o_0 P) (.node (PySem.W.boot_o_1 P) (.node (PySem.W.boot_o_3 P) (.node (PySem.W.boot_o_7 P) .nil .nil) (.node (z0_11 P) .nil .nil)) (.node (PySem.W.boot_o_5 P) (.node (PySem.W.boot_o_9 P) .nil .nil) (.node (z0_13 P) .nil .nil))) (.node (PySem.W.boot_o_2 P) (.node (PySem.W.boot_o_4 P) (.node (PySem.W.boot_o_8 P) .nil .nil) (.node (z0_12 P) .nil .nil)) (.node (PySem.W.boot_o_6 P) (.node (PySem.W.boot_o_10 P) .nil .nil) (.node (z0_14 P) .nil .nil))))
noncomputable def z9_2 (P : Params) : Obj := ⟨.none, none, (.dict #[⟨PyData.keyHash P (Str.mk #[116, 121, 112, 101, 46, 95, 95, 115, 117, 98, 99, 108, 97, 115, 115, 101, 115, 95, 95, 46, 69, 120, 99, 101, 112, 116, 105, 111, 110, 46, 48]), (.str (Str.mk #[116, 121, 112, 101, 46, 95, 95, 115, 117, 98, 99, 108, 97, 115, 115, 101, 115, 95, 95, 46, 69, 120, 99, 101, 112, 116, 105, 111, 110, 46, 48]) 257), (.int 39 0)⟩, ⟨PyData.keyHash P (Str.mk #[116, 121, 112, 101, 46, 95, 95, 115, 117, 98, 99, 108, 97, 115, 115, 101, 115, 95, 95, 46, 69, 120, 99, 101, 112, 116, 105, 111, 110, 46, 110]), (.str (Str.mk #[116, 121, 112, 101, 46, 95, 95, 115, 117, 98, 99, 108, 97, 115, 115, 101, 115, 95, 95, 46, 69, 120, 99, 101, 112, 116, 105, 111, 110, 46, 110]) 258), (.int 1 0)⟩] 2), #[]⟩
noncomputable def z9_3 (P : Params) : Obj := ⟨(.type "dict"), none, (.dict #[⟨PyData.keyHash P (Str.mk #[95, 95, 110, 97, 109, 101, 95, 95]), (.str (Str.mk #[95, 95, 110, 97, 109, 101, 95, 95]) 165), (.str (Str.mk #[99, 112, 121, 51, 49, 51, 46, 115, 116, 114, 105, 110, 103, 112, 114, 101, 112]) 288)⟩, ⟨PyData.keyHash P (Str.mk #[95, 95, 100, 111, 99, 95, 95]), (.str (Str.mk #[95, 95, 100, 111, 99, 95, 95]) 166), .none⟩, ⟨PyData.keyHash P (Str.mk #[95, 95, 112, 97, 99, 107, 97, 103, 101, 95, 95]), (.str (Str.mk #[95, 95, 112, 97, 99, 107, 97, 103, 101, 95, 95]) 167), .none⟩, ⟨PyData.keyHash P (Str.mk #[95, 95, 108, 111, 97, 100, 101, 114, 95, 95]), (.str (Str.mk #[95, 95, 108, 111, 97, 100, 101, 114, 95, 95]) 168), (.builtin "__main__.__loader__#opaque")⟩, ⟨PyData.keyHash P (Str.mk #[95, 95, 115, 112, 101, 99, 95, 95]), (.str (Str.mk #[95, 95, 115, 112, 101, 99, 95, 95]) 169), .none⟩, ⟨PyData.keyHash P (Str.mk #[95, 95, 97, 110, 110, 111, 116, 97, 116, 105, 111, 110, 115, 95, 95]), (.str (Str.mk #[95, 95, 97, 110, 110, 111, 116, 97, 116, 105, 111, 110, 115, 95, 95]) 170), (.ref 6)⟩, ⟨PyData.keyHash P (Str.mk #[95, 95, 98, 117, 105, 108, 116, 105, 110, 115, 95, 95]), (.str (Str.mk #[95, 95, 98, 117, 105, 108, 116, 105, 110, 115, 95, 95]) 171), (.ref 4)⟩, ⟨PyData.keyHash P (Str.mk #[95, 95, 102, 105, 108, 101, 95, 95]), (.str (Str.mk #[95, 95, 102, 105, 108, 101, 95, 95]) 173), (.str (Str.mk #[47, 99, 108, 97, 105, 109, 47, 99, 117, 116, 46, 112, 121]) 172)⟩, ⟨PyData.keyHash P (Str.mk #[95, 95, 99, 97, 99, 104, 101, 100, 95, 95]), (.str (Str.mk #[95, 95, 99, 97, 99, 104, 101, 100, 95, 95]) 174), .none⟩, ⟨PyData.keyHash P (Str.mk #[67, 79, 77, 80, 73, 76, 69, 82, 95, 70, 76, 65, 71, 95, 78, 65, 77, 69, 83]), (.str (Str.mk #[67, 79, 77, 80, 73, 76, 69, 82, 95, 70, 76, 65, 71, 95, 78, 65, 77, 69, 83]) 219), (.ref 15)⟩, ⟨PyData.keyHash P (Str.mk #[112, 114, 101, 116, 116, 121, 95, 102, 108, 97, 103, 115]), (.str (Str.mk #[112, 114, 101, 116, 116, 121, 95, 102, 108, 97, 103, 115]) 229), (.ref 22)⟩, ⟨PyData.keyHash P (Str.mk #[95, 112, 97, 114, 115, 101, 95, 118, 97, 114, 105, 110, 116]), (.str (Str.mk #[95, 112, 97, 114, 115, 101, 95, 118, 97, 114, 105, 110, 116]) 238), (.ref 29)⟩, ⟨PyData.keyHash P (Str.mk #[69, 114, 114, 111, 114]), (.str (Str.mk #[69, 114, 114, 111, 114]) 260), (.ref 39)⟩, ⟨PyData.keyHash P (Str.mk #[101, 114, 114, 111, 114, 95, 114, 101, 112, 108, 121]), (.str (Str.mk #[101, 114, 114, 111, 114, 95, 114, 101, 112, 108, 121]) 276), (.ref 52)⟩, ⟨PyData.keyHash P (Str.mk #[112, 97, 114, 115, 101, 50, 53, 55]), (.str (Str.mk #[112, 97, 114, 115, 101, 50, 53, 55]) 287), (.ref 61)⟩] 15), #[]⟩
noncomputable def z9_12 (_ : Params) : Obj := ⟨.none, none, (.fields #[(.int 3 0), (.int 0 0), (.ref 21), (.int 15 0), (.int 0 0), (.ref 28), (.int 24 0), (.int 0 0), (.ref 35), (.int 26 0), (.int 0 0), (.ref 48), (.int 28 0), (.int 0 0), (.ref 60)]), #[]⟩
noncomputable def z9_15 (_ : Params) : Obj := ⟨(.type "dict"), none, (.dict #[⟨1, (.int 1 189), (.str (Str.mk #[79, 80, 84, 73, 77, 73, 90, 69, 68]) 190)⟩, ⟨2, (.int 2 191), (.str (Str.mk #[78, 69, 87, 76, 79, 67, 65, 76, 83]) 192)⟩, ⟨4, (.int 4 193), (.str (Str.mk #[86, 65, 82, 65, 82, 71, 83]) 194)⟩, ⟨8, (.int 8 195), (.str (Str.mk #[86, 65, 82, 75, 69, 89, 87, 79, 82, 68, 83]) 196)⟩, ⟨16, (.int 16 197), (.str (Str.mk #[78, 69, 83, 84, 69, 68]) 198)⟩, ⟨32, (.int 32 199), (.str (Str.mk #[71, 69, 78, 69, 82, 65, 84, 79, 82]) 200)⟩, ⟨64, (.int 64 201), (.str (Str.mk #[78, 79, 70, 82, 69, 69]) 202)⟩, ⟨128, (.int 128 203), (.str (Str.mk #[67, 79, 82, 79, 85, 84, 73, 78, 69]) 204)⟩, ⟨256, (.int 256 205), (.str (Str.mk #[73, 84, 69, 82, 65, 66, 76, 69, 95, 67, 79, 82, 79, 85, 84, 73, 78, 69]) 206)⟩, ⟨512, (.int 512 207), (.str (Str.mk #[65, 83, 89, 78, 67, 95, 71, 69, 78, 69, 82, 65, 84, 79, 82]) 208)⟩] 10), #[]⟩
noncomputable def z9_16 (_ : Params) : Obj := ⟨(.type "tuple"), none, (.seq #[] 0), #[]⟩
noncomputable def z9_17 (_ : Params) : Obj := ⟨.none, none, (.fields #[]), #[]⟩
noncomputable def z9_18 (_ : Params) : Obj := ⟨(.type "tuple"), none, (.seq #[(.str (Str.mk #[102, 108, 97, 103, 115]) 223), (.str (Str.mk #[110, 97, 109, 101, 115]) 224), (.str (Str.mk #[105]) 225), (.str (Str.mk #[102, 108, 97, 103]) 226)] 0), #[]⟩
noncomputable def z9_19 (_ : Params) : Obj := ⟨(.type "tuple"), none, (.seq #[] 0), #[]⟩
noncomputable def z9_20 (_ : Params) : Obj := ⟨.none, none, (.func ⟨(Str.mk #[112, 114, 101, 116, 116, 121, 95, 102, 108, 97, 103, 115]), (Str.mk #[112, 114, 101, 116, 116, 121, 95, 102, 108, 97, 103, 115]), parAt 2, .stmts (bodyAt 2), scoAt 2, 0, [], .none, .none, .none, .none, none, .none, .none, 0⟩), #[]⟩
noncomputable def z9_21 (_ : Params) : Obj := ⟨(.type "code"), none, (.fields #[(.str (Str.mk #[112, 114, 101, 116, 116, 121, 95, 102, 108, 97, 103, 115]) 220), (.str (Str.mk #[112, 114, 101, 116, 116, 121, 95, 102, 108, 97, 103, 115]) 221), (.str (Str.mk #[47, 99, 108, 97, 105, 109, 47, 99, 117, 116, 46, 112, 121]) 222), (.int 3 0), (.int 1 0), (.int 0 0), (.int 0 0), (.int 3 0), (.ref 16), (.bool true), (.int 181 0), (.ref 17), .none, (.ref 18), (.ref 19), (.ref 20), (.int 227 0), (.int 3 0), (.str (Str.mk #[47, 99, 108, 97, 105, 109, 47, 99, 117, 116, 46, 112, 121]) 228)]), #[]⟩
noncomputable def z9_22 (_ : Params) : Obj := ⟨(.type "function"), none, (.func ⟨(Str.mk #[112, 114, 101, 116, 116, 121, 95, 102, 108, 97, 103, 115]), (Str.mk #[112, 114, 101, 116, 116, 121, 95, 102, 108, 97, 103, 115]), parAt 2, .stmts (bodyAt 2), scoAt 2, 3, [], .none, .none, .none, (.str (Str.mk #[99, 112, 121, 51, 49, 51, 46, 100, 105, 115]) 187), none, (.ref 21), .none, 0⟩), #[]⟩
noncomputable def z9_23 (_ : Params) : Obj := ⟨(.type "tuple"), none, (.seq #[] 0), #[]⟩
noncomputable def z9_24 (_ : Params) : Obj := ⟨.none, none, (.fields #[]), #[]⟩
noncomputable def z9_25 (_ : Params) : Obj := ⟨(.type "tuple"), none, (.seq #[(.str (Str.mk #[105, 116, 101, 114, 97, 116, 111, 114]) 233), (.str (Str.mk #[98]) 234), (.str (Str.mk #[118, 97, 108]) 235)] 0), #[]⟩
noncomputable def z9_26 (_ : Params) : Obj := ⟨(.type "tuple"), none, (.seq #[] 0), #[]⟩
noncomputable def z9_27 (_ : Params) : Obj := ⟨.none, none, (.func ⟨(Str.mk #[95, 112, 97, 114, 115, 101, 95, 118, 97, 114, 105, 110, 116]), (Str.mk #[95, 112, 97, 114, 115, 101, 95, 118, 97, 114, 105, 110, 116]), parAt 3, .stmts (bodyAt 3), scoAt 3, 0, [], .none, .none, .none, .none, none, .none, .none, 0⟩), #[]⟩
noncomputable def z9_28 (_ : Params) : Obj := ⟨(.type "code"), none, (.fields #[(.str (Str.mk #[95, 112, 97, 114, 115, 101, 95, 118, 97, 114, 105, 110, 116]) 230), (.str (Str.mk #[95, 112, 97, 114, 115, 101, 95, 118, 97, 114, 105, 110, 116]) 231), (.str (Str.mk #[47, 99, 108, 97, 105, 109, 47, 99, 117, 116, 46, 112, 121]) 232), (.int 15 0), (.int 1 0), (.int 0 0), (.int 0 0), (.int 3 0), (.ref 23), (.bool true), (.int 181 0), (.ref 24), .none, (.ref 25), (.ref 26), (.ref 27), (.int 236 0), (.int 15 0), (.str (Str.mk #[47, 99, 108, 97, 105, 109, 47, 99, 117, 116, 46, 112, 121]) 237)]), #[]⟩
noncomputable def z9_29 (_ : Params) : Obj := ⟨(.type "function"), none, (.func ⟨(Str.mk #[95, 112, 97, 114, 115, 101, 95, 118, 97, 114, 105, 110, 116]), (Str.mk #[95, 112, 97, 114, 115, 101, 95, 118, 97, 114, 105, 110, 116]), parAt 3, .stmts (bodyAt 3), scoAt 3, 3, [], .none, .none, .none, (.str (Str.mk #[99, 112, 121, 51, 49, 51, 46, 100, 105, 115]) 187), none, (.ref 28), .none, 0⟩), #[]⟩
noncomputable def z9_30 (_ : Params) : Obj := ⟨(.type "tuple"), none, (.seq #[(.type "Exception")] 0), #[]⟩
noncomputable def z9_31 (_ : Params) : Obj := ⟨(.type "builtin_function_or_method"), none, (.fields #[(.builtin "type.__prepare__"), (.type "type")]), #[]⟩
noncomputable def z9_32 (P : Params) : Obj := ⟨(.type "dict"), none, (.dict #[⟨PyData.keyHash P (Str.mk #[95, 95, 109, 111, 100, 117, 108, 101, 95, 95]), (.str (Str.mk #[95, 95, 109, 111, 100, 117, 108, 101, 95, 95]) 248), (.str (Str.mk #[99, 112, 121, 51, 49, 51, 46, 102, 116, 112, 108, 105, 98]) 239)⟩, ⟨PyData.keyHash P (Str.mk #[95, 95, 113, 117, 97, 108, 110, 97, 109, 101, 95, 95]), (.str (Str.mk #[95, 95, 113, 117, 97, 108, 110, 97, 109, 101, 95, 95]) 250), (.str (Str.mk #[69, 114, 114, 111, 114]) 249)⟩, ⟨PyData.keyHash P (Str.mk #[95, 95, 102, 105, 114, 115, 116, 108, 105, 110, 101, 110, 111, 95, 95]), (.str (Str.mk #[95, 95, 102, 105, 114, 115, 116, 108, 105, 110, 101, 110, 111, 95, 95]) 252), (.int 24 251)⟩, ⟨PyData.keyHash P (Str.mk #[95, 95, 115, 116, 97, 116, 105, 99, 95, 97, 116, 116, 114, 105, 98, 117, 116, 101, 115, 95, 95]), (.str (Str.mk #[95, 95, 115, 116, 97, 116, 105, 99, 95, 97, 116, 116, 114, 105, 98, 117, 116, 101, 115, 95, 95]) 253), (.ref 37)⟩] 4), #[]⟩
noncomputable def z9_33 (_ : Params) : Obj := ⟨(.type "tuple"), none, (.seq #[] 0), #[]⟩
noncomputable def z9_34 (_ : Params) : Obj := ⟨.none, none, (.fields #[]), #[]⟩
noncomputable def z9_35 (_ : Params) : Obj := ⟨(.type "code"), none, (.fields #[(.str (Str.mk #[69, 114, 114, 111, 114]) 243), (.str (Str.mk #[69, 114, 114, 111, 114]) 244), (.str (Str.mk #[47, 99, 108, 97, 105, 109, 47, 99, 117, 116, 46, 112, 121]) 245), (.int 24 0), (.int 0 0), (.int 0 0), (.int 0 0), (.int 0 0), (.ref 33), (.bool false), (.int 181 0), (.ref 34), .none, .none, .none, .none, (.int 246 0), (.int 24 0), (.str (Str.mk #[47, 99, 108, 97, 105, 109, 47, 99, 117, 116, 46, 112, 121]) 247)]), #[]⟩
noncomputable def z9_36 (_ : Params) : Obj := ⟨(.type "frame"), none, .plain, #[some (.ref 35), some (.ref 3), some (.ref 32), none, some (.str (Str.mk #[99, 112, 121, 51, 49, 51, 46, 102, 116, 112, 108, 105, 98]) 239), none, some (.ref 0)]⟩
noncomputable def z9_37 (_ : Params) : Obj := ⟨(.type "tuple"), none, (.seq #[] 0), #[]⟩
noncomputable def z9_38 (P : Params) : Obj := ⟨(.type "dict"), none, (.dict #[⟨PyData.keyHash P (Str.mk #[95, 95, 109, 111, 100, 117, 108, 101, 95, 95]), (.str (Str.mk #[95, 95, 109, 111, 100, 117, 108, 101, 95, 95]) 248), (.str (Str.mk #[99, 112, 121, 51, 49, 51, 46, 102, 116, 112, 108, 105, 98]) 239)⟩, ⟨PyData.keyHash P (Str.mk #[95, 95, 102, 105, 114, 115, 116, 108, 105, 110, 101, 110, 111, 95, 95]), (.str (Str.mk #[95, 95, 102, 105, 114, 115, 116, 108, 105, 110, 101, 110, 111, 95, 95]) 252), (.int 24 251)⟩, ⟨PyData.keyHash P (Str.mk #[95, 95, 115, 116, 97, 116, 105, 99, 95, 97, 116, 116, 114, 105, 98, 117, 116, 101, 115, 95, 95]), (.str (Str.mk #[95, 95, 115, 116, 97, 116, 105, 99, 95, 97, 116, 116, 114, 105, 98, 117, 116, 101, 115, 95, 95]) 253), (.ref 37)⟩, ⟨PyData.keyHash P (Str.mk #[95, 95, 119, 101, 97, 107, 114, 101, 102, 95, 95]), (.str (Str.mk #[95, 95, 119, 101, 97, 107, 114, 101, 102, 95, 95]) 255), (.ref 40)⟩, ⟨PyData.keyHash P (Str.mk #[95, 95, 100, 111, 99, 95, 95]), (.str (Str.mk #[95, 95, 100, 111, 99, 95, 95]) 256), .none⟩] 3), #[]⟩
noncomputable def z9_39 (_ : Params) : Obj := ⟨(.type "type"), none, (.cls { name := (Str.mk #[69, 114, 114, 111, 114]), bases := [(.type "Exception")], mro := [(.ref 39), (.type "Exception"), (.type "BaseException"), (.type "object")], ns := 38, qualname := (Str.mk #[69, 114, 114, 111, 114]), hasDict := true, slotNames := [], subclasses := [(.ref 52)], abstract := false, collection := none, hasDel := false }), #[some (.ref 30), none, some (.str (Str.mk #[69, 114, 114, 111, 114]) 241), some (.str (Str.mk #[69, 114, 114, 111, 114]) 249), some (.builtin "Exception.__new__"), some (.bool true)]⟩
noncomputable def z9_40 (_ : Params) : Obj := ⟨(.type "getset_descriptor"), none, (.fields #[(.str (Str.mk #[95, 95, 119, 101, 97, 107, 114, 101, 102, 95, 95]) 254), (.ref 39), (.builtin "ExceptionGroup.__weakref__"), .none]), #[]⟩
noncomputable def z9_41 (_ : Params) : Obj := ⟨(.type "super"), none, (.fields #[(.ref 39), (.ref 39), (.ref 39)]), #[]⟩
noncomputable def z9_42 (_ : Params) : Obj := ⟨(.type "builtin_function_or_method"), none, (.fields #[(.builtin "object.__init_subclass__"), (.ref 39)]), #[]⟩
noncomputable def z9_43 (_ : Params) : Obj := ⟨(.type "tuple"), none, (.seq #[(.ref 39)] 0), #[]⟩
noncomputable def z9_44 (_ : Params) : Obj := ⟨(.type "builtin_function_or_method"), none, (.fields #[(.builtin "type.__prepare__"), (.type "type")]), #[]⟩
noncomputable def z9_45 (P : Params) : Obj := ⟨(.type "dict"), none, (.dict #[⟨PyData.keyHash P (Str.mk #[95, 95, 109, 111, 100, 117, 108, 101, 95, 95]), (.str (Str.mk #[95, 95, 109, 111, 100, 117, 108, 101, 95, 95]) 268), (.str (Str.mk #[99, 112, 121, 51, 49, 51, 46, 102, 116, 112, 108, 105, 98]) 239)⟩, ⟨PyData.keyHash P (Str.mk #[95, 95, 113, 117, 97, 108, 110, 97, 109, 101, 95, 95]), (.str (Str.mk #[95, 95, 113, 117, 97, 108, 110, 97, 109, 101, 95, 95]) 270), (.str (Str.mk #[101, 114, 114, 111, 114, 95, 114, 101, 112, 108, 121]) 269)⟩, ⟨PyData.keyHash P (Str.mk #[95, 95, 102, 105, 114, 115, 116, 108, 105, 110, 101, 110, 111, 95, 95]), (.str (Str.mk #[95, 95, 102, 105, 114, 115, 116, 108, 105, 110, 101, 110, 111, 95, 95]) 272), (.int 26 271)⟩, ⟨PyData.keyHash P (Str.mk #[95, 95, 115, 116, 97, 116, 105, 99, 95, 97, 116, 116, 114, 105, 98, 117, 116, 101, 115, 95, 95]), (.str (Str.mk #[95, 95, 115, 116, 97, 116, 105, 99, 95, 97, 116, 116, 114, 105, 98, 117, 116, 101, 115, 95, 95]) 273), (.ref 50)⟩] 4), #[]⟩
noncomputable def z9_46 (_ : Params) : Obj := ⟨(.type "tuple"), none, (.seq #[] 0), #[]⟩
noncomputable def z9_47 (_ : Params) : Obj := ⟨.none, none, (.fields #[]), #[]⟩
noncomputable def z9_48 (_ : Params) : Obj := ⟨(.type "code"), none, (.fields #[(.str (Str.mk #[101, 114, 114, 111, 114, 95, 114, 101, 112, 108, 121]) 263), (.str (Str.mk #[101, 114, 114, 111, 114, 95, 114, 101, 112, 108, 121]) 264), (.str (Str.mk #[47, 99, 108, 97, 105, 109, 47, 99, 117, 116, 46, 112, 121]) 265), (.int 26 0), (.int 0 0), (.int 0 0), (.int 0 0), (.int 0 0), (.ref 46), (.bool false), (.int 181 0), (.ref 47), .none, .none, .none, .none, (.int 266 0), (.int 26 0), (.str (Str.mk #[47, 99, 108, 97, 105, 109, 47, 99, 117, 116, 46, 112, 121]) 267)]), #[]⟩
noncomputable def z9_49 (_ : Params) : Obj := ⟨(.type "frame"), none, .plain, #[some (.ref 48), some (.ref 3), some (.ref 45), none, some (.str (Str.mk #[99, 112, 121, 51, 49, 51, 46, 102, 116, 112, 108, 105, 98]) 239), none, some (.ref 0)]⟩
noncomputable def z9_50 (_ : Params) : Obj := ⟨(.type "tuple"), none, (.seq #[] 0), #[]⟩
noncomputable def z9_51 (P : Params) : Obj := ⟨(.type "dict"), none, (.dict #[⟨PyData.keyHash P (Str.mk #[95, 95, 109, 111, 100, 117, 108, 101, 95, 95]), (.str (Str.mk #[95, 95, 109, 111, 100, 117, 108, 101, 95, 95]) 268), (.str (Str.mk #[99, 112, 121, 51, 49, 51, 46, 102, 116, 112, 108, 105, 98]) 239)⟩, ⟨PyData.keyHash P (Str.mk #[95, 95, 102, 105, 114, 115, 116, 108, 105, 110, 101, 110, 111, 95, 95]), (.str (Str.mk #[95, 95, 102, 105, 114, 115, 116, 108, 105, 110, 101, 110, 111, 95, 95]) 272), (.int 26 271)⟩, ⟨PyData.keyHash P (Str.mk #[95, 95, 115, 116, 97, 116, 105, 99, 95, 97, 116, 116, 114, 105, 98, 117, 116, 101, 115, 95, 95]), (.str (Str.mk #[95, 95, 115, 116, 97, 116, 105, 99, 95, 97, 116, 116, 114, 105, 98, 117, 116, 101, 115, 95, 95]) 273), (.ref 50)⟩, ⟨PyData.keyHash P (Str.mk #[95, 95, 100, 111, 99, 95, 95]), (.str (Str.mk #[95, 95, 100, 111, 99, 95, 95]) 274), .none⟩] 2), #[]⟩
noncomputable def z9_52 (_ : Params) : Obj := ⟨(.type "type"), none, (.cls { name := (Str.mk #[101, 114, 114, 111, 114, 95, 114, 101, 112, 108, 121]), bases := [(.ref 39)], mro := [(.ref 52), (.ref 39), (.type "Exception"), (.type "BaseException"), (.type "object")], ns := 51, qualname := (Str.mk #[101, 114, 114, 111, 114, 95, 114, 101, 112, 108, 121]), hasDict := true, slotNames := [], subclasses := [], abstract := false, collection := none, hasDel := false }), #[some (.ref 43), none, some (.str (Str.mk #[101, 114, 114, 111, 114, 95, 114, 101, 112, 108, 121]) 261), some (.str (Str.mk #[101, 114, 114, 111, 114, 95, 114, 101, 112, 108, 121]) 269), some (.builtin "Exception.__new__"), some (.bool true)]⟩
noncomputable def z9_53 (_ : Params) : Obj := ⟨(.type "super"), none, (.fields #[(.ref 52), (.ref 52), (.ref 52)]), #[]⟩
noncomputable def z9_54 (_ : Params) : Obj := ⟨(.type "builtin_function_or_method"), none, (.fields #[(.builtin "object.__init_subclass__"), (.ref 52)]), #[]⟩
noncomputable def z9_55 (_ : Params) : Obj := ⟨(.type "tuple"), none, (.seq #[] 0), #[]⟩
noncomputable def z9_56 (_ : Params) : Obj := ⟨.none, none, (.fields #[]), #[]⟩
noncomputable def z9_57 (_ : Params) : Obj := ⟨(.type "tuple"), none, (.seq #[(.str (Str.mk #[114, 101, 115, 112]) 280), (.str (Str.mk #[100, 105, 114, 110, 97, 109, 101]) 281), (.str (Str.mk #[105]) 282), (.str (Str.mk #[110]) 283), (.str (Str.mk #[99]) 284)] 0), #[]⟩
noncomputable def z9_58 (_ : Params) : Obj := ⟨(.type "tuple"), none, (.seq #[] 0), #[]⟩
noncomputable def z9_59 (_ : Params) : Obj := ⟨.none, none, (.func ⟨(Str.mk #[112, 97, 114, 115, 101, 50, 53, 55]), (Str.mk #[112, 97, 114, 115, 101, 50, 53, 55]), parAt 7, .stmts (bodyAt 7), scoAt 7, 0, [], .none, .none, .none, .none, none, .none, .none, 0⟩), #[]⟩
noncomputable def z9_60 (_ : Params) : Obj := ⟨(.type "code"), none, (.fields #[(.str (Str.mk #[112, 97, 114, 115, 101, 50, 53, 55]) 277), (.str (Str.mk #[112, 97, 114, 115, 101, 50, 53, 55]) 278), (.str (Str.mk #[47, 99, 108, 97, 105, 109, 47, 99, 117, 116, 46, 112, 121]) 279), (.int 28 0), (.int 1 0), (.int 0 0), (.int 0 0), (.int 3 0), (.ref 55), (.bool true), (.int 181 0), (.ref 56), .none, (.ref 57), (.ref 58), (.ref 59), (.int 285 0), (.int 28 0), (.str (Str.mk #[47, 99, 108, 97, 105, 109, 47, 99, 117, 116, 46, 112, 121]) 286)]), #[]⟩
noncomputable def z9_61 (_ : Params) : Obj := ⟨(.type "function"), none, (.func ⟨(Str.mk #[112, 97, 114, 115, 101, 50, 53, 55]), (Str.mk #[112, 97, 114, 115, 101, 50, 53, 55]), parAt 7, .stmts (bodyAt 7), scoAt 7, 3, [], .none, .none, .none, (.str (Str.mk #[99, 112, 121, 51, 49, 51, 46, 102, 116, 112, 108, 105, 98]) 239), none, (.ref 60), .none, 0⟩), #[]⟩
noncomputable def z9_tree (P : Params) : BT := (.node (PySem.W.boot_o_0 P) (.node (PySem.W.boot_o_1 P) (.node (z9_3 P) (.node (PySem.W.boot_o_7 P) (.node (z9_15 P) (.node (z9_31 P) .nil .nil) (.node (z9_47 P) .nil .nil)) (.node (z9_23 P) (.node (z9_39 P) .nil .nil) (.node (z9_55 P) .nil .nil))) (.node (z0_11 P) (.node (z9_19 P) (.node (z9_35 P) .nil .nil) (.node (z9_51 P) .nil .nil)) (.node (z9_27 P) (.node (z9_43 P) .nil .nil) (.node (z9_59 P) .nil .nil)))) (.node (PySem.W.boot_o_5 P) (.node (PySem.W.boot_o_9 P) (.node (z9_17 P) (.node (z9_33 P) .nil .nil) (.node (z9_49 P) .nil .nil)) (.node (z9_25 P) (.node (z9_41 P) .nil .nil) (.node (z9_57 P) .nil .nil))) (.node (z0_13 P) (.node (z9_21 P) (.node (z9_37 P) .nil .nil) (.node (z9_53 P) .nil .nil)) (.node (z9_29 P) (.node (z9_45 P) .nil .nil) (.node (z9_61 P) .nil .nil))))) (.node (z9_2 P) (.node (PySem.W.boot_o_4 P) (.node (PySem.W.boot_o_8 P) (.node (z9_16 P) (.node (z9_32 P) .nil .nil) (.node (z9_48 P) .nil .nil)) (.node (z9_24 P) (.node (z9_40 P) .nil .nil) (.node (z9_56 P) .nil .nil))) (.node (z9_12 P) (.node (z9_20 P) (.node (z9_36 P) .nil .nil) (.node (z9_52 P) .nil .nil)) (.node (z9_28 P) (.node (z9_44 P) .nil .nil) (.node (z9_60 P) .nil .nil)))) (.node (PySem.W.boot_o_6 P) (.node (PySem.W.boot_o_10 P) (.node (z9_18 P) (.node (z9_34 P) .nil .nil) (.node (z9_50 P) .nil .nil)) (.node (z9_26 P) (.node (z9_42 P) .nil .nil) (.node (z9_58 P) .nil .nil))) (.node (z0_14 P) (.node (z9_22 P) (.node (z9_38 P) .nil .nil) (.node (z9_54 P) .nil .nil)) (.node (z9_30 P) (.node (z9_46 P) .nil .nil) .nil)))))
noncomputable def s10_3 (P : Params) : Obj := ⟨(.type "dict"), none, (.dict #[⟨PyData.keyHash P (Str.mk #[95, 95, 110, 97, 109, 101, 95, 95]), (.str (Str.mk #[95, 95, 110, 97, 109, 101, 95, 95]) 165), (.str (Str.mk #[99, 112, 121, 51, 49, 51, 46, 115, 116, 114, 105, 110, 103, 112, 114, 101, 112]) 288)⟩, ⟨PyData.keyHash P (Str.mk #[95, 95, 100, 111, 99, 95, 95]), (.str (Str.mk #[95, 95, 100, 111, 99, 95, 95]) 166), .none⟩, ⟨PyData.keyHash P (Str.mk #[95, 95, 112, 97, 99, 107, 97, 103, 101, 95, 95]), (.str (Str.mk #[95, 95, 112, 97, 99, 107, 97, 103, 101, 95, 95]) 167), .none⟩, ⟨PyData.keyHash P (Str.mk #[95, 95, 108, 111, 97, 100, 101, 114, 95, 95]), (.str (Str.mk #[95, 95, 108, 111, 97, 100, 101, 114, 95, 95]) 168), (.builtin "__main__.__loader__#opaque")⟩, ⟨PyData.keyHash P (Str.mk #[95, 95, 115, 112, 101, 99, 95, 95]), (.str (Str.mk #[95, 95, 115, 112, 101, 99, 95, 95]) 169), .none⟩, ⟨PyData.keyHash P (Str.mk #[95, 95, 97, 110, 110, 111, 116, 97, 116, 105, 111, 110, 115, 95, 95]), (.str (Str.mk #[95, 95, 97, 110, 110, 111, 116, 97, 116, 105, 111, 110, 115, 95, 95]) 170), (.ref 6)⟩, ⟨PyData.keyHash P (Str.mk #[95, 95, 98, 117, 105, 108, 116, 105, 110, 115, 95, 95]), (.str (Str.mk #[95, 95, 98, 117, 105, 108, 116, 105, 110, 115, 95, 95]) 171), (.ref 4)⟩, ⟨PyData.keyHash P (Str.mk #[95, 95, 102, 105, 108, 101, 95, 95]), (.str (Str.mk #[95, 95, 102, 105, 108, 101, 95, 95]) 173), (.str (Str.mk #[47, 99, 108, 97, 105, 109, 47, 99, 117, 116, 46, 112, 121]) 172)⟩, ⟨PyData.keyHash P (Str.mk #[95, 95, 99, 97, 99, 104, 101, 100, 95, 95]), (.str (Str.mk #[95, 95, 99, 97, 99, 104, 101, 100, 95, 95]) 174), .none⟩, ⟨PyData.keyHash P (Str.mk #[67, 79, 77, 80, 73, 76, 69, 82, 95, 70, 76, 65, 71, 95, 78, 65, 77, 69, 83]), (.str (Str.mk #[67, 79, 77, 80, 73, 76, 69, 82, 95, 70, 76, 65, 71, 95, 78, 65, 77, 69, 83]) 219), (.ref 15)⟩, ⟨PyData.keyHash P (Str.mk #[112, 114, 101, 116, 116, 121, 95, 102, 108, 97, 103, 115]), (.str (Str.mk #[112, 114, 101, 116, 116, 121, 95, 102, 108, 97, 103, 115]) 229), (.ref 22)⟩, ⟨PyData.keyHash P (Str.mk #[95, 112, 97, 114, 115, 101, 95, 118, 97, 114, 105, 110, 116]), (.str (Str.mk #[95, 112, 97, 114, 115, 101, 95, 118, 97, 114, 105, 110, 116]) 238), (.ref 29)⟩, ⟨PyData.keyHash P (Str.mk #[69, 114, 114, 111, 114]), (.str (Str.mk #[69, 114, 114, 111, 114]) 260), (.ref 39)⟩, ⟨PyData.keyHash P (Str.mk #[101, 114, 114, 111, 114, 95, 114, 101, 112, 108, 121]), (.str (Str.mk #[101, 114, 114, 111, 114, 95, 114, 101, 112, 108, 121]) 276), (.ref 52)⟩, ⟨PyData.keyHash P (Str.mk #[112, 97, 114, 115, 101, 50, 53, 55]), (.str (Str.mk #[112, 97, 114, 115, 101, 50, 53, 55]) 287), (.ref 61)⟩, ⟨PyData.keyHash P (Str.mk #[98, 51, 95, 101, 120, 99, 101, 112, 116, 105, 111, 110, 115]), (.str (Str.mk #[98, 51, 95, 101, 120, 99, 101, 112, 116, 105, 111, 110, 115]) 2240), (.ref 62)⟩] 16), #[]⟩
noncomputable def s10_62 (_ : Params) : Obj := ⟨.type "dict", none, .dict b3ents.toArray 650, #[]⟩
noncomputable def s10_63 (_ : Params) : Obj := ⟨.type "dict", none, .dict (b3sub 0).toArray 17, #[]⟩
noncomputable def s10_64 (_ : Params) : Obj := ⟨.type "dict", none, .dict (b3sub 1).toArray 17, #[]⟩
noncomputable def s10_65 (_ : Params) : Obj := ⟨.type "dict", none, .dict (b3sub 2).toArray 17, #[]⟩
noncomputable def s10_66 (_ : Params) : Obj := ⟨.type "dict", none, .dict (b3sub 3).toArray 17, #[]⟩
noncomputable def s10_67 (_ : Params) : Obj := ⟨.type "dict", none, .dict (b3sub 4).toArray 17, #[]⟩
noncomputable def s10_68 (_ : Params) : Obj := ⟨.type "dict", none, .dict (b3sub 5).toArray 17, #[]⟩
noncomputable def s10_69 (_ : Params) : Obj := ⟨.type "dict", none, .dict (b3sub 6).toArray 17, #[]⟩
noncomputable def s10_70 (_ : Params) : Obj := ⟨.type "dict", none, .dict (b3sub 7).toArray 17, #[]⟩
noncomputable def s10_71 (_ : Params) : Obj := ⟨.type "dict", none, .dict (b3sub 8).toArray 17, #[]⟩
noncomputable def s10_72 (_ : Params) : Obj := ⟨.type "dict", none, .dict (b3sub 9).toArray 17, #[]⟩
noncomputable def s10_73 (_ : Params) : Obj := ⟨.type "dict", none, .dict (b3sub 10).toArray 17, #[]⟩
noncomputable def s10_74 (_ : Params) : Obj := ⟨.type "dict", none, .dict (b3sub 11).toArray 17, #[]⟩
noncomputable def s10_75 (_ : Params) : Obj := ⟨.type "dict", none, .dict (b3sub 12).toArray 17, #[]⟩
noncomputable def s10_76 (_ : Params) : Obj := ⟨.type "dict", none, .dict (b3sub 13).toArray 17, #[]⟩
noncomputable def s10_77 (_ : Params) : Obj := ⟨.type "dict", none, .dict (b3sub 14).toArray 17, #[]⟩
noncomputable def s10_78 (_ : Params) : Obj := ⟨.type "dict", none, .dict (b3sub 15).toArray 17, #[]⟩
noncomputable def s10_79 (_ : Params) : Obj := ⟨.type "dict", none, .dict (b3sub 16).toArray 17, #[]⟩
noncomputable def s10_80 (_ : Params) : Obj := ⟨.type "dict", none, .dict (b3sub 17).toArray 17, #[]⟩
noncomputable def s10_81 (_ : Params) : Obj := ⟨.type "dict", none, .dict (b3sub 18).toArray 17, #[]⟩
noncomputable def s10_82 (_ : Params) : Obj := ⟨.type "dict", none, .dict (b3sub 19).toArray 17, #[]⟩
noncomputable def s10_83 (_ : Params) : Obj := ⟨.type "dict", none, .dict (b3sub 20).toArray 17, #[]⟩
noncomputable def s10_84 (_ : Params) : Obj := ⟨.type "dict", none, .dict (b3sub 21).toArray 17, #[]⟩
noncomputable def s10_85 (_ : Params) : Obj := ⟨.type "dict", none, .dict (b3sub 22).toArray 17, #[]⟩
noncomputable def s10_86 (_ : Params) : Obj := ⟨.type "dict", none, .dict (b3sub 23).toArray 17, #[]⟩
noncomputable def s10_87 (_ : Params) : Obj := ⟨.type "dict", none, .dict (b3sub 24).toArray 17, #[]⟩
noncomputable def s10_88 (_ : Params) : Obj := ⟨.type "dict", none, .dict (b3sub 25).toArray 17, #[]⟩
noncomputable def s10_89 (_ : Params) : Obj := ⟨.type "dict", none, .dict (b3sub 26).toArray 17, #[]⟩
noncomputable def s10_90 (_ : Params) : Obj := ⟨.type "dict", none, .dict (b3sub 27).toArray 17, #[]⟩
noncomputable def s10_91 (_ : Params) : Obj := ⟨.type "dict", none, .dict (b3sub 28).toArray 17, #[]⟩
noncomputable def s10_92 (_ : Params) : Obj := ⟨.type "dict", none, .dict (b3sub 29).toArray 17, #[]⟩
noncomputable def s10_93 (_ : Params) : Obj := ⟨.type "dict", none, .dict (b3sub 30).toArray 17, #[]⟩
noncomputable def s10_94 (_ : Params) : Obj := ⟨.type "dict", none, .dict (b3sub 31).toArray 17, #[]⟩
noncomputable def s10_95 (_ : Params) : Obj := ⟨.type "dict", none, .dict (b3sub 32).toArray 17, #[]⟩
noncomputable def s10_96 (_ : Params) : Obj := ⟨.type "dict", none, .dict (b3sub 33).toArray 17, #[]⟩
noncomputable def s10_97 (_ : Params) : Obj := ⟨.type "dict", none, .dict (b3sub 34).toArray 17, #[]⟩
noncomputable def s10_98 (_ : Params) : Obj := ⟨.type "dict", none, .dict (b3sub 35).toArray 17, #[]⟩
noncomputable def s10_99 (_ : Params) : Obj := ⟨.type "dict", none, .dict (b3sub 36).toArray 17, #[]⟩
noncomputable def s10_100 (_ : Params) : Obj := ⟨.type "dict", none, .dict (entsS b3last 2228).toArray 4, #[]⟩
noncomputable def s10_tree (P : Params) : BT := (.node (PySem.W.boot_o_0 P) (.node (PySem.W.boot_o_1 P) (.node (s10_3 P) (.node (PySem.W.boot_o_7 P) (.node (z9_15 P) (.node (z9_31 P) (.node (s10_63 P) .nil .nil) (.node (s10_95 P) .nil .nil)) (.node (z9_47 P) (.node (s10_79 P) .nil .nil) .nil)) (.node (z9_23 P) (.node (z9_39 P) (.node (s10_71 P) .nil .nil) .nil) (.node (z9_55 P) (.node (s10_87 P) .nil .nil) .nil))) (.node (z0_11 P) (.node (z9_19 P) (.node (z9_35 P) (.node (s10_67 P) .nil .nil) (.node (s10_99 P) .nil .nil)) (.node (z9_51 P) (.node (s10_83 P) .nil .nil) .nil)) (.node (z9_27 P) (.node (z9_43 P) (.node (s10_75 P) .nil .nil) .nil) (.node (z9_59 P) (.node (s10_91 P) .nil .nil) .nil)))) (.node (PySem.W.boot_o_5 P) (.node (PySem.W.boot_o_9 P) (.node (z9_17 P) (.node (z9_33 P) (.node (s10_65 P) .nil .nil) (.node (s10_97 P) .nil .nil)) (.node (z9_49 P) (.node (s10_81 P) .nil .nil) .nil)) (.node (z9_25 P) (.node (z9_41 P) (.node (s10_73 P) .nil .nil) .nil) (.node (z9_57 P) (.node (s10_89 P) .nil .nil) .nil))) (.node (z0_13 P) (.node (z9_21 P) (.node (z9_37 P) (.node (s10_69 P) .nil .nil) .nil) (.node (z9_53 P) (.node (s10_85 P) .nil .nil) .nil)) (.node (z9_29 P) (.node (z9_45 P) (.node (s10_77 P) .nil .nil) .nil) (.node (z9_61 P) (.node (s10_93 P) .nil .nil) .nil))))) (.node (z9_2 P) (.node (PySem.W.boot_o_4 P) (.node (PySem.W.boot_o_8 P) (.node (z9_16 P) (.node (z9_32 P) (.node (s10_64 P) .nil .nil) (.node (s10_96 P) .nil .nil)) (.node (z9_48 P) (.node (s10_80 P) .nil .nil) .nil)) (.node (z9_24 P) (.node (z9_40 P) (.node (s10_72 P) .nil .nil) .nil) (.node (z9_56 P) (.node (s10_88 P) .nil .nil) .nil))) (.node (z9_12 P) (.node (z9_20 P) (.node (z9_36 P) (.node (s10_68 P) .nil .nil) (.node (s10_100 P) .nil .nil)) (.node (z9_52 P) (.node (s10_84 P) .nil .nil) .nil)) (.node (z9_28 P) (.node (z9_44 P) (.node (s10_76 P) .nil .nil) .nil) (.node (z9_60 P) (.node (s10_92 P) .nil .nil) .nil)))) (.node (PySem.W.boot_o_6 P) (.node (PySem.W.boot_o_10 P) (.node (z9_18 P) (.node (z9_34 P) (.node (s10_66 P) .nil .nil) (.node (s10_98 P) .nil .nil)) (.node (z9_50 P) (.node (s10_82 P) .nil .nil) .nil)) (.node (z9_26 P) (.node (z9_42 P) (.node (s10_74 P) .nil .nil) .nil) (.node (z9_58 P) (.node (s10_90 P) .nil .nil) .nil))) (.node (z0_14 P) (.node (z9_22 P) (.node (z9_38 P) (.node (s10_70 P) .nil .nil) .nil) (.node (z9_54 P) (.node (s10_86 P) .nil .nil) .nil)) (.node (z9_30 P) (.node (z9_46 P) (.node (s10_78 P) .nil .nil) .nil) (.node (s10_62 P) (.node (s10_94 P) .nil .nil) .nil))))))
noncomputable def s10_n : Nat := 101
noncomputable def s10_toks : Nat := 2241
noncomputable def s12_3 (P : Params) : Obj := ⟨(.type "dict"), none, (.dict #[⟨PyData.keyHash P (Str.mk #[95, 95, 110, 97, 109, 101, 95, 95]), (.str (Str.mk #[95, 95, 110, 97, 109, 101, 95, 95]) 165), (.str (Str.mk #[99, 112, 121, 51, 49, 51, 46, 115, 116, 114, 105, 110, 103, 112, 114, 101, 112]) 288)⟩, ⟨PyData.keyHash P (Str.mk #[95, 95, 100, 111, 99, 95, 95]), (.str (Str.mk #[95, 95, 100, 111, 99, 95, 95]) 166), .none⟩, ⟨PyData.keyHash P (Str.mk #[95, 95, 112, 97, 99, 107, 97, 103, 101, 95, 95]), (.str (Str.mk #[95, 95, 112, 97, 99, 107, 97, 103, 101, 95, 95]) 167), .none⟩, ⟨PyData.keyHash P (Str.mk #[95, 95, 108, 111, 97, 100, 101, 114, 95, 95]), (.str (Str.mk #[95, 95, 108, 111, 97, 100, 101, 114, 95, 95]) 168), (.builtin "__main__.__loader__#opaque")⟩, ⟨PyData.keyHash P (Str.mk #[95, 95, 115, 112, 101, 99, 95, 95]), (.str (Str.mk #[95, 95, 115, 112, 101, 99, 95, 95]) 169), .none⟩, ⟨PyData.keyHash P (Str.mk #[95, 95, 97, 110, 110, 111, 116, 97, 116, 105, 111, 110, 115, 95, 95]), (.str (Str.mk #[95, 95, 97, 110, 110, 111, 116, 97, 116, 105, 111, 110, 115, 95, 95]) 170), (.ref 6)⟩, ⟨PyData.keyHash P (Str.mk #[95, 95, 98, 117, 105, 108, 116, 105, 110, 115, 95, 95]), (.str (Str.mk #[95, 95, 98, 117, 105, 108, 116, 105, 110, 115, 95, 95]) 171), (.ref 4)⟩, ⟨PyData.keyHash P (Str.mk #[95, 95, 102, 105, 108, 101, 95, 95]), (.str (Str.mk #[95, 95, 102, 105, 108, 101, 95, 95]) 173), (.str (Str.mk #[47, 99, 108, 97, 105, 109, 47, 99, 117, 116, 46, 112, 121]) 172)⟩, ⟨PyData.keyHash P (Str.mk #[95, 95, 99, 97, 99, 104, 101, 100, 95, 95]), (.str (Str.mk #[95, 95, 99, 97, 99, 104, 101, 100, 95, 95]) 174), .none⟩, ⟨PyData.keyHash P (Str.mk #[67, 79, 77, 80, 73, 76, 69, 82, 95, 70, 76, 65, 71, 95, 78, 65, 77, 69, 83]), (.str (Str.mk #[67, 79, 77, 80, 73, 76, 69, 82, 95, 70, 76, 65, 71, 95, 78, 65, 77, 69, 83]) 219), (.ref 15)⟩, ⟨PyData.keyHash P (Str.mk #[112, 114, 101, 116, 116, 121, 95, 102, 108, 97, 103, 115]), (.str (Str.mk #[112, 114, 101, 116, 116, 121, 95, 102, 108, 97, 103, 115]) 229), (.ref 22)⟩, ⟨PyData.keyHash P (Str.mk #[95, 112, 97, 114, 115, 101, 95, 118, 97, 114, 105, 110, 116]), (.str (Str.mk #[95, 112, 97, 114, 115, 101, 95, 118, 97, 114, 105, 110, 116]) 238), (.ref 29)⟩, ⟨PyData.keyHash P (Str.mk #[69, 114, 114, 111, 114]), (.str (Str.mk #[69, 114, 114, 111, 114]) 260), (.ref 39)⟩, ⟨PyData.keyHash P (Str.mk #[101, 114, 114, 111, 114, 95, 114, 101, 112, 108, 121]), (.str (Str.mk #[101, 114, 114, 111, 114, 95, 114, 101, 112, 108, 121]) 276), (.ref 52)⟩, ⟨PyData.keyHash P (Str.mk #[112, 97, 114, 115, 101, 50, 53, 55]), (.str (Str.mk #[112, 97, 114, 115, 101, 50, 53, 55]) 287), (.ref 61)⟩, ⟨PyData.keyHash P (Str.mk #[98, 51, 95, 101, 120, 99, 101, 112, 116, 105, 111, 110, 115]), (.str (Str.mk #[98, 51, 95, 101, 120, 99, 101, 112, 116, 105, 111, 110, 115]) 2240), (.ref 62)⟩, ⟨PyData.keyHash P (Str.mk #[109, 97, 112, 95, 116, 97, 98, 108, 101, 95, 98, 51]), (.str (Str.mk #[109, 97, 112, 95, 116, 97, 98, 108, 101, 95, 98, 51]) 2248), (.ref 107)⟩, ⟨PyData.keyHash P (Str.mk #[105, 110, 95, 116, 97, 98, 108, 101, 95, 99, 52]), (.str (Str.mk #[105, 110, 95, 116, 97, 98, 108, 101, 95, 99, 52]) 2256), (.ref 114)⟩] 18), #[]⟩
noncomputable def s12_12 (_ : Params) : Obj := ⟨.none, none, (.fields #[(.int 3 0), (.int 0 0), (.ref 21), (.int 15 0), (.int 0 0), (.ref 28), (.int 24 0), (.int 0 0), (.ref 35), (.int 26 0), (.int 0 0), (.ref 48), (.int 28 0), (.int 0 0), (.ref 60), (.int 47 0), (.int 0 0), (.ref 106), (.int 52 0), (.int 0 0), (.ref 113)]), #[]⟩
noncomputable def s12_101 (_ : Params) : Obj := ⟨(.type "tuple"), none, (.seq #[] 0), #[]⟩
noncomputable def s12_102 (_ : Params) : Obj := ⟨.none, none, (.fields #[]), #[]⟩
noncomputable def s12_103 (_ : Params) : Obj := ⟨(.type "tuple"), none, (.seq #[(.str (Str.mk #[99, 111, 100, 101]) 2244), (.str (Str.mk #[114]) 2245)] 0), #[]⟩
noncomputable def s12_104 (_ : Params) : Obj := ⟨(.type "tuple"), none, (.seq #[] 0), #[]⟩
noncomputable def s12_105 (_ : Params) : Obj := ⟨.none, none, (.func ⟨(Str.mk #[109, 97, 112, 95, 116, 97, 98, 108, 101, 95, 98, 51]), (Str.mk #[109, 97, 112, 95, 116, 97, 98, 108, 101, 95, 98, 51]), parAt 10, .stmts (bodyAt 10), scoAt 10, 0, [], .none, .none, .none, .none, none, .none, .none, 0⟩), #[]⟩
noncomputable def s12_106 (_ : Params) : Obj := ⟨(.type "code"), none, (.fields #[(.str (Str.mk #[109, 97, 112, 95, 116, 97, 98, 108, 101, 95, 98, 51]) 2241), (.str (Str.mk #[109, 97, 112, 95, 116, 97, 98, 108, 101, 95, 98, 51]) 2242), (.str (Str.mk #[47, 99, 108, 97, 105, 109, 47, 99, 117, 116, 46, 112, 121]) 2243), (.int 47 0), (.int 1 0), (.int 0 0), (.int 0 0), (.int 3 0), (.ref 101), (.bool true), (.int 181 0), (.ref 102), .none, (.ref 103), (.ref 104), (.ref 105), (.int 2246 0), (.int 47 0), (.str (Str.mk #[47, 99, 108, 97, 105, 109, 47, 99, 117, 116, 46, 112, 121]) 2247)]), #[]⟩
noncomputable def s12_107 (_ : Params) : Obj := ⟨(.type "function"), none, (.func ⟨(Str.mk #[109, 97, 112, 95, 116, 97, 98, 108, 101, 95, 98, 51]), (Str.mk #[109, 97, 112, 95, 116, 97, 98, 108, 101, 95, 98, 51]), parAt 10, .stmts (bodyAt 10), scoAt 10, 3, [], .none, .none, .none, (.str (Str.mk #[99, 112, 121, 51, 49, 51, 46, 115, 116, 114, 105, 110, 103, 112, 114, 101, 112]) 288), none, (.ref 106), .none, 0⟩), #[]⟩
noncomputable def s12_108 (_ : Params) : Obj := ⟨(.type "tuple"), none, (.seq #[] 0), #[]⟩
noncomputable def s12_109 (_ : Params) : Obj := ⟨.none, none, (.fields #[]), #[]⟩
noncomputable def s12_110 (_ : Params) : Obj := ⟨(.type "tuple"), none, (.seq #[(.str (Str.mk #[99, 111, 100, 101]) 2252), (.str (Str.mk #[99]) 2253)] 0), #[]⟩
noncomputable def s12_111 (_ : Params) : Obj := ⟨(.type "tuple"), none, (.seq #[] 0), #[]⟩
noncomputable def s12_112 (_ : Params) : Obj := ⟨.none, none, (.func ⟨(Str.mk #[105, 110, 95, 116, 97, 98, 108, 101, 95, 99, 52]), (Str.mk #[105, 110, 95, 116, 97, 98, 108, 101, 95, 99, 52]), parAt 11, .stmts (bodyAt 11), scoAt 11, 0, [], .none, .none, .none, .none, none, .none, .none, 0⟩), #[]⟩
noncomputable def s12_113 (_ : Params) : Obj := ⟨(.type "code"), none, (.fields #[(.str (Str.mk #[105, 110, 95, 116, 97, 98, 108, 101, 95, 99, 52]) 2249), (.str (Str.mk #[105, 110, 95, 116, 97, 98, 108, 101, 95, 99, 52]) 2250), (.str (Str.mk #[47, 99, 108, 97, 105, 109, 47, 99, 117, 116, 46, 112, 121]) 2251), (.int 52 0), (.int 1 0), (.int 0 0), (.int 0 0), (.int 3 0), (.ref 108), (.bool true), (.int 181 0), (.ref 109), .none, (.ref 110), (.ref 111), (.ref 112), (.int 2254 0), (.int 52 0), (.str (Str.mk #[47, 99, 108, 97, 105, 109, 47, 99, 117, 116, 46, 112, 121]) 2255)]), #[]⟩
noncomputable def s12_114 (_ : Params) : Obj := ⟨(.type "function"), none, (.func ⟨(Str.mk #[105, 110, 95, 116, 97, 98, 108, 101, 95, 99, 52]), (Str.mk #[105, 110, 95, 116, 97, 98, 108, 101, 95, 99, 52]), parAt 11, .stmts (bodyAt 11), scoAt 11, 3, [], .none, .none, .none, (.str (Str.mk #[99, 112, 121, 51, 49, 51, 46, 115, 116, 114, 105, 110, 103, 112, 114, 101, 112]) 288), none, (.ref 113), .none, 0⟩), #[]⟩
noncomputable def s12_tree (P : Params) : BT := (.node (PySem.W.boot_o_0 P) (.node (PySem.W.boot_o_1 P) (.node (s12_3 P) (.node (PySem.W.boot_o_7 P) (.node (z9_15 P) (.node (z9_31 P) (.node (s10_63 P) .nil .nil) (.node (s10_95 P) .nil .nil)) (.node (z9_47 P) (.node (s10_79 P) .nil .nil) (.node (s12_111 P) .nil .nil))) (.node (z9_23 P) (.node (z9_39 P) (.node (s10_71 P) .nil .nil) (.node (s12_103 P) .nil .nil)) (.node (z9_55 P) (.node (s10_87 P) .nil .nil) .nil))) (.node (z0_11 P) (.node (z9_19 P) (.node (z9_35 P) (.node (s10_67 P) .nil .nil) (.node (s10_99 P) .nil .nil)) (.node (z9_51 P) (.node (s10_83 P) .nil .nil) .nil)) (.node (z9_27 P) (.node (z9_43 P) (.node (s10_75 P) .nil .nil) (.node (s12_107 P) .nil .nil)) (.node (z9_59 P) (.node (s10_91 P) .nil .nil) .nil)))) (.node (PySem.W.boot_o_5 P) (.node (PySem.W.boot_o_9 P) (.node (z9_17 P) (.node (z9_33 P) (.node (s10_65 P) .nil .nil) (.node (s10_97 P) .nil .nil)) (.node (z9_49 P) (.node (s10_81 P) .nil .nil) (.node (s12_113 P) .nil .nil))) (.node (z9_25 P) (.node (z9_41 P) (.node (s10_73 P) .nil .nil) (.node (s12_105 P) .nil .nil)) (.node (z9_57 P) (.node (s10_89 P) .nil .nil) .nil))) (.node (z0_13 P) (.node (z9_21 P) (.node (z9_37 P) (.node (s10_69 P) .nil .nil) (.node (s12_101 P) .nil .nil)) (.node (z9_53 P) (.node (s10_85 P) .nil .nil) .nil)) (.node (z9_29 P) (.node (z9_45 P) (.node (s10_77 P) .nil .nil) (.node (s12_109 P) .nil .nil)) (.node (z9_61 P) (.node (s10_93 P) .nil .nil) .nil))))) (.node (z9_2 P) (.node (PySem.W.boot_o_4 P) (.node (PySem.W.boot_o_8 P) (.node (z9_16 P) (.node (z9_32 P) (.node (s10_64 P) .nil .nil) (.node (s10_96 P) .nil .nil)) (.node (z9_48 P) (.node (s10_80 P) .nil .nil) (.node (s12_112 P) .nil .nil))) (.node (z9_24 P) (.node (z9_40 P) (.node (s10_72 P) .nil .nil) (.node (s12_104 P) .nil .nil)) (.node (z9_56 P) (.node (s10_88 P) .nil .nil) .nil))) (.node (s12_12 P) (.node (z9_20 P) (.node (z9_36 P) (.node (s10_68 P) .nil .nil) (.node (s10_100 P) .nil .nil)) (.node (z9_52 P) (.node (s10_84 P) .nil .nil) .nil)) (.node (z9_28 P) (.node (z9_44 P) (.node (s10_76 P) .nil .nil) (.node (s12_108 P) .nil .nil)) (.node (z9_60 P) (.node (s10_92 P) .nil .nil) .nil)))) (.node (PySem.W.boot_o_6 P) (.node (PySem.W.boot_o_10 P) (.node (z9_18 P) (.node (z9_34 P) (.node (s10_66 P) .nil .nil) (.node (s10_98 P) .nil .nil)) (.node (z9_50 P) (.node (s10_82 P) .nil .nil) (.node (s12_114 P) .nil .nil))) (.node (z9_26 P) (.node (z9_42 P) (.node (s10_74 P) .nil .nil) (.node (s12_106 P) .nil .nil)) (.node (z9_58 P) (.node (s10_90 P) .nil .nil) .nil))) (.node (z0_14 P) (.node (z9_22 P) (.node (z9_38 P) (.node (s10_70 P) .nil .nil) (.node (s12_102 P) .nil .nil)) (.node (z9_54 P) (.node (s10_86 P) .nil .nil) .nil)) (.node (z9_30 P) (.node (z9_46 P) (.node (s10_78 P) .nil .nil) (.node (s12_110 P) .nil .nil)) (.node (s10_62 P) (.node (s10_94 P) .nil .nil) .nil))))))
noncomputable def s12_n : Nat := 115
noncomputable def s12_toks : Nat := 2257
noncomputable def s13_3 (P : Params) : Obj := ⟨(.type "dict"), none, (.dict #[⟨PyData.keyHash P (Str.mk #[95, 95, 110, 97, 109, 101, 95, 95]), (.str (Str.mk #[95, 95, 110, 97, 109, 101, 95, 95]) 165), (.str (Str.mk #[99, 112, 121, 51, 49, 51, 46, 115, 116, 114, 105, 110, 103, 112, 114, 101, 112]) 288)⟩, ⟨PyData.keyHash P (Str.mk #[95, 95, 100, 111, 99, 95, 95]), (.str (Str.mk #[95, 95, 100, 111, 99, 95, 95]) 166), .none⟩, ⟨PyData.keyHash P (Str.mk #[95, 95, 112, 97, 99, 107, 97, 103, 101, 95, 95]), (.str (Str.mk #[95, 95, 112, 97, 99, 107, 97, 103, 101, 95, 95]) 167), .none⟩, ⟨PyData.keyHash P (Str.mk #[95, 95, 108, 111, 97, 100, 101, 114, 95, 95]), (.str (Str.mk #[95, 95, 108, 111, 97, 100, 101, 114, 95, 95]) 168), (.builtin "__main__.__loader__#opaque")⟩, ⟨PyData.keyHash P (Str.mk #[95, 95, 115, 112, 101, 99, 95, 95]), (.str (Str.mk #[95, 95, 115, 112, 101, 99, 95, 95]) 169), .none⟩, ⟨PyData.keyHash P (Str.mk #[95, 95, 97, 110, 110, 111, 116, 97, 116, 105, 111, 110, 115, 95, 95]), (.str (Str.mk #[95, 95, 97, 110, 110, 111, 116, 97, 116, 105, 111, 110, 115, 95, 95]) 170), (.ref 6)⟩, ⟨PyData.keyHash P (Str.mk #[95, 95, 98, 117, 105, 108, 116, 105, 110, 115, 95, 95]), (.str (Str.mk #[95, 95, 98, 117, 105, 108, 116, 105, 110, 115, 95, 95]) 171), (.ref 4)⟩, ⟨PyData.keyHash P (Str.mk #[95, 95, 102, 105, 108, 101, 95, 95]), (.str (Str.mk #[95, 95, 102, 105, 108, 101, 95, 95]) 173), (.str (Str.mk #[47, 99, 108, 97, 105, 109, 47, 99, 117, 116, 46, 112, 121]) 172)⟩, ⟨PyData.keyHash P (Str.mk #[95, 95, 99, 97, 99, 104, 101, 100, 95, 95]), (.str (Str.mk #[95, 95, 99, 97, 99, 104, 101, 100, 95, 95]) 174), .none⟩, ⟨PyData.keyHash P (Str.mk #[67, 79, 77, 80, 73, 76, 69, 82, 95, 70, 76, 65, 71, 95, 78, 65, 77, 69, 83]), (.str (Str.mk #[67, 79, 77, 80, 73, 76, 69, 82, 95, 70, 76, 65, 71, 95, 78, 65, 77, 69, 83]) 219), (.ref 15)⟩, ⟨PyData.keyHash P (Str.mk #[112, 114, 101, 116, 116, 121, 95, 102, 108, 97, 103, 115]), (.str (Str.mk #[112, 114, 101, 116, 116, 121, 95, 102, 108, 97, 103, 115]) 229), (.ref 22)⟩, ⟨PyData.keyHash P (Str.mk #[95, 112, 97, 114, 115, 101, 95, 118, 97, 114, 105, 110, 116]), (.str (Str.mk #[95, 112, 97, 114, 115, 101, 95, 118, 97, 114, 105, 110, 116]) 238), (.ref 29)⟩, ⟨PyData.keyHash P (Str.mk #[69, 114, 114, 111, 114]), (.str (Str.mk #[69, 114, 114, 111, 114]) 260), (.ref 39)⟩, ⟨PyData.keyHash P (Str.mk #[101, 114, 114, 111, 114, 95, 114, 101, 112, 108, 121]), (.str (Str.mk #[101, 114, 114, 111, 114, 95, 114, 101, 112, 108, 121]) 276), (.ref 52)⟩, ⟨PyData.keyHash P (Str.mk #[112, 97, 114, 115, 101, 50, 53, 55]), (.str (Str.mk #[112, 97, 114, 115, 101, 50, 53, 55]) 287), (.ref 61)⟩, ⟨PyData.keyHash P (Str.mk #[98, 51, 95, 101, 120, 99, 101, 112, 116, 105, 111, 110, 115]), (.str (Str.mk #[98, 51, 95, 101, 120, 99, 101, 112, 116, 105, 111, 110, 115]) 2240), (.ref 62)⟩, ⟨PyData.keyHash P (Str.mk #[109, 97, 112, 95, 116, 97, 98, 108, 101, 95, 98, 51]), (.str (Str.mk #[109, 97, 112, 95, 116, 97, 98, 108, 101, 95, 98, 51]) 2248), (.ref 107)⟩, ⟨PyData.keyHash P (Str.mk #[105, 110, 95, 116, 97, 98, 108, 101, 95, 99, 52]), (.str (Str.mk #[105, 110, 95, 116, 97, 98, 108, 101, 95, 99, 52]) 2256), (.ref 114)⟩, ⟨PyData.keyHash P (Str.mk #[99, 56, 95, 115, 101, 116]), (.str (Str.mk #[99, 56, 95, 115, 101, 116]) 2297), (.ref 128)⟩] 19), #[]⟩
noncomputable def s13_115 (_ : Params) : Obj := ⟨(.type "list"), none, (.seq #[(.int 832 2257), (.int 833 2258), (.int 8206 2259), (.int 8207 2260)] 0), #[]⟩
noncomputable def s13_116 (_ : Params) : Obj := ⟨(.type "range"), none, (.fields #[(.int 8234 2261), (.int 8239 2262), (.int 1 2263)]), #[]⟩
noncomputable def s13_117 (_ : Params) : Obj := ⟨(.type "list"), none, (.seq #[(.int 8234 2266), (.int 8235 2267), (.int 8236 2268), (.int 8237 2269), (.int 8238 2270)] 7), #[]⟩
noncomputable def s13_118 (_ : Params) : Obj := ⟨(.type "range_iterator"), none, (.fields #[(.int 8239 0), (.int 0 0), (.int 1 0)]), #[]⟩
noncomputable def s13_119 (_ : Params) : Obj := ⟨(.type "tuple"), none, (.seq #[] 0), #[]⟩
noncomputable def s13_120 (_ : Params) : Obj := ⟨(.type "StopIteration"), none, (.fields #[(.ref 119), .none, .none, .none, (.bool false), .none]), #[]⟩
noncomputable def s13_121 (_ : Params) : Obj := ⟨(.type "list"), none, (.seq #[(.int 832 2257), (.int 833 2258), (.int 8206 2259), (.int 8207 2260), (.int 8234 2266), (.int 8235 2267), (.int 8236 2268), (.int 8237 2269), (.int 8238 2270)] 0), #[]⟩
noncomputable def s13_122 (_ : Params) : Obj := ⟨(.type "range"), none, (.fields #[(.int 8298 2271), (.int 8304 2272), (.int 1 2273)]), #[]⟩
noncomputable def s13_123 (_ : Params) : Obj := ⟨(.type "list"), none, (.seq #[(.int 8298 2276), (.int 8299 2277), (.int 8300 2278), (.int 8301 2279), (.int 8302 2280), (.int 8303 2281)] 8), #[]⟩
noncomputable def s13_124 (_ : Params) : Obj := ⟨(.type "range_iterator"), none, (.fields #[(.int 8304 0), (.int 0 0), (.int 1 0)]), #[]⟩
noncomputable def s13_125 (_ : Params) : Obj := ⟨(.type "tuple"), none, (.seq #[] 0), #[]⟩
noncomputable def s13_126 (_ : Params) : Obj := ⟨(.type "StopIteration"), none, (.fields #[(.ref 125), .none, .none, .none, (.bool false), .none]), #[]⟩
noncomputable def s13_127 (_ : Params) : Obj := ⟨(.type "list"), none, (.seq #[(.int 832 2257), (.int 833 2258), (.int 8206 2259), (.int 8207 2260), (.int 8234 2266), (.int 8235 2267), (.int 8236 2268), (.int 8237 2269), (.int 8238 2270), (.int 8298 2276), (.int 8299 2277), (.int 8300 2278), (.int 8301 2279), (.int 8302 2280), (.int 8303 2281)] 0), #[]⟩
noncomputable def s13_128 (P : Params) : Obj := ⟨(.type "set"), none, (.set #[(832, (.int 832 2257)), (833, (.int 833 2258)), (8234, (.int 8234 2266)), (8235, (.int 8235 2267)), (8236, (.int 8236 2268)), (8237, (.int 8237 2269)), (8206, (.int 8206 2259)), (8207, (.int 8207 2260)), (8238, (.int 8238 2270)), (8298, (.int 8298 2276)), (8299, (.int 8299 2277)), (8300, (.int 8300 2278)), (8301, (.int 8301 2279)), (8302, (.int 8302 2280)), (8303, (.int 8303 2281))] 16 ⟨31, #[0, 1, 10, 11, 12, 13, 14, 15, 16, 17, 18, 19, 20, 21, 22], #[], 0, !P.followText "set-order", 1, true⟩), #[]⟩
noncomputable def s13_129 (_ : Params) : Obj := ⟨(.type "list_iterator"), none, (.fields #[.none, (.int 15 0)]), #[]⟩
noncomputable def s13_130 (_ : Params) : Obj := ⟨(.type "tuple"), none, (.seq #[] 0), #[]⟩
noncomputable def s13_131 (_ : Params) : Obj := ⟨(.type "StopIteration"), none, (.fields #[(.ref 130), .none, .none, .none, (.bool false), .none]), #[]⟩
noncomputable def s13_tree (P : Params) : BT := (.node (PySem.W.boot_o_0 P) (.node (PySem.W.boot_o_1 P) (.node (s13_3 P) (.node (PySem.W.boot_o_7 P) (.node (z9_15 P) (.node (z9_31 P) (.node (s10_63 P) (.node (s13_127 P) .nil .nil) .nil) (.node (s10_95 P) .nil .nil)) (.node (z9_47 P) (.node (s10_79 P) .nil .nil) (.node (s12_111 P) .nil .nil))) (.node (z9_23 P) (.node (z9_39 P) (.node (s10_71 P) .nil .nil) (.node (s12_103 P) .nil .nil)) (.node (z9_55 P) (.node (s10_87 P) .nil .nil) (.node (s13_119 P) .nil .nil)))) (.node (z0_11 P) (.node (z9_19 P) (.node (z9_35 P) (.node (s10_67 P) (.node (s13_131 P) .nil .nil) .nil) (.node (s10_99 P) .nil .nil)) (.node (z9_51 P) (.node (s10_83 P) .nil .nil) (.node (s13_115 P) .nil .nil))) (.node (z9_27 P) (.node (z9_43 P) (.node (s10_75 P) .nil .nil) (.node (s12_107 P) .nil .nil)) (.node (z9_59 P) (.node (s10_91 P) .nil .nil) (.node (s13_123 P) .nil .nil))))) (.node (PySem.W.boot_o_5 P) (.node (PySem.W.boot_o_9 P) (.node (z9_17 P) (.node (z9_33 P) (.node (s10_65 P) (.node (s13_129 P) .nil .nil) .nil) (.node (s10_97 P) .nil .nil)) (.node (z9_49 P) (.node (s10_81 P) .nil .nil) (.node (s12_113 P) .nil .nil))) (.node (z9_25 P) (.node (z9_41 P) (.node (s10_73 P) .nil .nil) (.node (s12_105 P) .nil .nil)) (.node (z9_57 P) (.node (s10_89 P) .nil .nil) (.node (s13_121 P) .nil .nil)))) (.node (z0_13 P) (.node (z9_21 P) (.node (z9_37 P) (.node (s10_69 P) .nil .nil) (.node (s12_101 P) .nil .nil)) (.node (z9_53 P) (.node (s10_85 P) .nil .nil) (.node (s13_117 P) .nil .nil))) (.node (z9_29 P) (.node (z9_45 P) (.node (s10_77 P) .nil .nil) (.node (s12_109 P) .nil .nil)) (.node (z9_61 P) (.node (s10_93 P) .nil .nil) (.node (s13_125 P) .nil .nil)))))) (.node (z9_2 P) (.node (PySem.W.boot_o_4 P) (.node (PySem.W.boot_o_8 P) (.node (z9_16 P) (.node (z9_32 P) (.node (s10_64 P) (.node (s13_128 P) .nil .nil) .nil) (.node (s10_96 P) .nil .nil)) (.node (z9_48 P) (.node (s10_80 P) .nil .nil) (.node (s12_112 P) .nil .nil))) (.node (z9_24 P) (.node (z9_40 P) (.node (s10_72 P) .nil .nil) (.node (s12_104 P) .nil .nil)) (.node (z9_56 P) (.node (s10_88 P) .nil .nil) (.node (s13_120 P) .nil .nil)))) (.node (s12_12 P) (.node (z9_20 P) (.node (z9_36 P) (.node (s10_68 P) .nil .nil) (.node (s10_100 P) .nil .nil)) (.node (z9_52 P) (.node (s10_84 P) .nil .nil) (.node (s13_116 P) .nil .nil))) (.node (z9_28 P) (.node (z9_44 P) (.node (s10_76 P) .nil .nil) (.node (s12_108 P) .nil .nil)) (.node (z9_60 P) (.node (s10_92 P) .nil .nil) (.node (s13_124 P) .nil .nil))))) (.node (PySem.W.boot_o_6 P) (.node (PySem.W.boot_o_10 P) (.node (z9_18 P) (.node (z9_34 P) (.node (s10_66 P) (.node (s13_130 P) .nil .nil) .nil) (.node (s10_98 P) .nil .nil)) (.node (z9_50 P) (.node (s10_82 P) .nil .nil) (.node (s12_114 P) .nil .nil))) (.node (z9_26 P) (.node (z9_42 P) (.node (s10_74 P) .nil .nil) (.node (s12_106 P) .nil .nil)) (.node (z9_58 P) (.node (s10_90 P) .nil .nil) (.node (s13_122 P) .nil .nil)))) (.node (z0_14 P) (.node (z9_22 P) (.node (z9_38 P) (.node (s10_70 P) .nil .nil) (.node (s12_102 P) .nil .nil)) (.node (z9_54 P) (.node (s10_86 P) .nil .nil) (.node (s13_118 P) .nil .nil))) (.node (z9_30 P) (.node (z9_46 P) (.node (s10_78 P) .nil .nil) (.node (s12_110 P) .nil .nil)) (.node (s10_62 P) (.node (s10_94 P) .nil .nil) (.node (s13_126 P) .nil .nil)))))))
noncomputable def s13_n : Nat := 132
noncomputable def s13_toks : Nat := 2298
noncomputable def s26_3 (P : Params) : Obj := ⟨(.type "dict"), none, (.dict #[⟨PyData.keyHash P (Str.mk #[95, 95, 110, 97, 109, 101, 95, 95]), (.str (Str.mk #[95, 95, 110, 97, 109, 101, 95, 95]) 165), (.str (Str.mk #[108, 97, 119, 95, 119, 107, 48, 48, 51, 54, 95, 48, 49]) 2305)⟩, ⟨PyData.keyHash P (Str.mk #[95, 95, 100, 111, 99, 95, 95]), (.str (Str.mk #[95, 95, 100, 111, 99, 95, 95]) 166), .none⟩, ⟨PyData.keyHash P (Str.mk #[95, 95, 112, 97, 99, 107, 97, 103, 101, 95, 95]), (.str (Str.mk #[95, 95, 112, 97, 99, 107, 97, 103, 101, 95, 95]) 167), .none⟩, ⟨PyData.keyHash P (Str.mk #[95, 95, 108, 111, 97, 100, 101, 114, 95, 95]), (.str (Str.mk #[95, 95, 108, 111, 97, 100, 101, 114, 95, 95]) 168), (.builtin "__main__.__loader__#opaque")⟩, ⟨PyData.keyHash P (Str.mk #[95, 95, 115, 112, 101, 99, 95, 95]), (.str (Str.mk #[95, 95, 115, 112, 101, 99, 95, 95]) 169), .none⟩, ⟨PyData.keyHash P (Str.mk #[95, 95, 97, 110, 110, 111, 116, 97, 116, 105, 111, 110, 115, 95, 95]), (.str (Str.mk #[95, 95, 97, 110, 110, 111, 116, 97, 116, 105, 111, 110, 115, 95, 95]) 170), (.ref 6)⟩, ⟨PyData.keyHash P (Str.mk #[95, 95, 98, 117, 105, 108, 116, 105, 110, 115, 95, 95]), (.str (Str.mk #[95, 95, 98, 117, 105, 108, 116, 105, 110, 115, 95, 95]) 171), (.ref 4)⟩, ⟨PyData.keyHash P (Str.mk #[95, 95, 102, 105, 108, 101, 95, 95]), (.str (Str.mk #[95, 95, 102, 105, 108, 101, 95, 95]) 173), (.str (Str.mk #[47, 99, 108, 97, 105, 109, 47, 99, 117, 116, 46, 112, 121]) 172)⟩, ⟨PyData.keyHash P (Str.mk #[95, 95, 99, 97, 99, 104, 101, 100, 95, 95]), (.str (Str.mk #[95, 95, 99, 97, 99, 104, 101, 100, 95, 95]) 174), .none⟩, ⟨PyData.keyHash P (Str.mk #[67, 79, 77, 80, 73, 76, 69, 82, 95, 70, 76, 65, 71, 95, 78, 65, 77, 69, 83]), (.str (Str.mk #[67, 79, 77, 80, 73, 76, 69, 82, 95, 70, 76, 65, 71, 95, 78, 65, 77, 69, 83]) 219), (.ref 15)⟩, ⟨PyData.keyHash P (Str.mk #[112, 114, 101, 116, 116, 121, 95, 102, 108, 97, 103, 115]), (.str (Str.mk #[112, 114, 101, 116, 116, 121, 95, 102, 108, 97, 103, 115]) 229), (.ref 22)⟩, ⟨PyData.keyHash P (Str.mk #[95, 112, 97, 114, 115, 101, 95, 118, 97, 114, 105, 110, 116]), (.str (Str.mk #[95, 112, 97, 114, 115, 101, 95, 118, 97, 114, 105, 110, 116]) 238), (.ref 29)⟩, ⟨PyData.keyHash P (Str.mk #[69, 114, 114, 111, 114]), (.str (Str.mk #[69, 114, 114, 111, 114]) 260), (.ref 39)⟩, ⟨PyData.keyHash P (Str.mk #[101, 114, 114, 111, 114, 95, 114, 101, 112, 108, 121]), (.str (Str.mk #[101, 114, 114, 111, 114, 95, 114, 101, 112, 108, 121]) 276), (.ref 52)⟩, ⟨PyData.keyHash P (Str.mk #[112, 97, 114, 115, 101, 50, 53, 55]), (.str (Str.mk #[112, 97, 114, 115, 101, 50, 53, 55]) 287), (.ref 61)⟩, ⟨PyData.keyHash P (Str.mk #[98, 51, 95, 101, 120, 99, 101, 112, 116, 105, 111, 110, 115]), (.str (Str.mk #[98, 51, 95, 101, 120, 99, 101, 112, 116, 105, 111, 110, 115]) 2240), (.ref 62)⟩, ⟨PyData.keyHash P (Str.mk #[109, 97, 112, 95, 116, 97, 98, 108, 101, 95, 98, 51]), (.str (Str.mk #[109, 97, 112, 95, 116, 97, 98, 108, 101, 95, 98, 51]) 2248), (.ref 107)⟩, ⟨PyData.keyHash P (Str.mk #[105, 110, 95, 116, 97, 98, 108, 101, 95, 99, 52]), (.str (Str.mk #[105, 110, 95, 116, 97, 98, 108, 101, 95, 99, 52]) 2256), (.ref 114)⟩, ⟨PyData.keyHash P (Str.mk #[99, 56, 95, 115, 101, 116]), (.str (Str.mk #[99, 56, 95, 115, 101, 116]) 2297), (.ref 128)⟩, ⟨PyData.keyHash P (Str.mk #[105, 110, 95, 116, 97, 98, 108, 101, 95, 99, 56]), (.str (Str.mk #[105, 110, 95, 116, 97, 98, 108, 101, 95, 99, 56]) 2304), (.ref 138)⟩, ⟨PyData.keyHash P (Str.mk #[95, 108, 97, 119, 95, 100, 114, 97, 119, 110]), (.str (Str.mk #[95, 108, 97, 119, 95, 100, 114, 97, 119, 110]) 2315), (.ref 145)⟩, ⟨PyData.keyHash P (Str.mk #[95, 108, 97, 119, 95, 116, 117, 114, 110]), (.str (Str.mk #[95, 108, 97, 119, 95, 116, 117, 114, 110]) 2323), (.ref 152)⟩, ⟨PyData.keyHash P (Str.mk #[95, 108, 97, 119, 95, 103, 111, 111, 100]), (.str (Str.mk #[95, 108, 97, 119, 95, 103, 111, 111, 100]) 2333), (.ref 159)⟩, ⟨PyData.keyHash P (Str.mk #[95, 108, 97, 119, 95, 99, 111, 100, 101, 115]), (.str (Str.mk #[95, 108, 97, 119, 95, 99, 111, 100, 101, 115]) 2341), (.ref 166)⟩, ⟨PyData.keyHash P (Str.mk #[95, 108, 97, 119, 95, 104, 101, 97, 114, 100]), (.str (Str.mk #[95, 108, 97, 119, 95, 104, 101, 97, 114, 100]) 2352), (.ref 173)⟩, ⟨PyData.keyHash P (Str.mk #[95, 108, 97, 119, 95, 112, 108, 97, 121, 101, 100]), (.str (Str.mk #[95, 108, 97, 119, 95, 112, 108, 97, 121, 101, 100]) 2358), (.ref 178)⟩, ⟨PyData.keyHash P (Str.mk #[95, 108, 97, 119, 95, 99, 114, 111, 115, 115, 101, 100]), (.str (Str.mk #[95, 108, 97, 119, 95, 99, 114, 111, 115, 115, 101, 100]) 2364), (.ref 183)⟩, ⟨PyData.keyHash P (Str.mk #[95, 108, 97, 119, 95, 119, 111, 114, 100, 101, 100]), (.str (Str.mk #[95, 108, 97, 119, 95, 119, 111, 114, 100, 101, 100]) 2370), (.ref 188)⟩, ⟨PyData.keyHash P (Str.mk #[95, 108, 97, 119, 95, 97, 104, 101, 97, 100]), (.str (Str.mk #[95, 108, 97, 119, 95, 97, 104, 101, 97, 100]) 2381), (.ref 195)⟩, ⟨PyData.keyHash P (Str.mk #[95, 108, 97, 119, 95, 99, 111, 110, 116, 101, 110, 116]), (.str (Str.mk #[95, 108, 97, 119, 95, 99, 111, 110, 116, 101, 110, 116]) 2387), (.ref 200)⟩, ⟨PyData.keyHash P (Str.mk #[108, 97, 119]), (.str (Str.mk #[108, 97, 119]) 2393), (.ref 205)⟩] 31), #[]⟩
noncomputable def s26_12 (_ : Params) : Obj := ⟨.none, none, (.fields #[(.int 3 0), (.int 0 0), (.ref 21), (.int 15 0), (.int 0 0), (.ref 28), (.int 24 0), (.int 0 0), (.ref 35), (.int 26 0), (.int 0 0), (.ref 48), (.int 28 0), (.int 0 0), (.ref 60), (.int 47 0), (.int 0 0), (.ref 106), (.int 52 0), (.int 0 0), (.ref 113), (.int 60 0), (.int 0 0), (.ref 137), (.int 63 0), (.int 0 0), (.ref 144), (.int 68 0), (.int 0 0), (.ref 151), (.int 75 0), (.int 0 0), (.ref 158), (.int 87 0), (.int 0 0), (.ref 165), (.int 91 0), (.int 0 0), (.ref 172), (.int 103 0), (.int 0 0), (.ref 177), (.int 118 0), (.int 0 0), (.ref 182), (.int 125 0), (.int 0 0), (.ref 187), (.int 130 0), (.int 0 0), (.ref 194), (.int 136 0), (.int 0 0), (.ref 199), (.int 142 0), (.int 0 0), (.ref 204)]), #[]⟩
noncomputable def s26_132 (_ : Params) : Obj := ⟨(.type "tuple"), none, (.seq #[] 0), #[]⟩
noncomputable def s26_133 (_ : Params) : Obj := ⟨.none, none, (.fields #[]), #[]⟩
noncomputable def s26_134 (_ : Params) : Obj := ⟨(.type "tuple"), none, (.seq #[(.str (Str.mk #[99, 111, 100, 101]) 2301)] 0), #[]⟩
noncomputable def s26_135 (_ : Params) : Obj := ⟨(.type "tuple"), none, (.seq #[] 0), #[]⟩
noncomputable def s26_136 (_ : Params) : Obj := ⟨.none, none, (.func ⟨(Str.mk #[105, 110, 95, 116, 97, 98, 108, 101, 95, 99, 56]), (Str.mk #[105, 110, 95, 116, 97, 98, 108, 101, 95, 99, 56]), parAt 13, .stmts (bodyAt 13), scoAt 13, 0, [], .none, .none, .none, .none, none, .none, .none, 0⟩), #[]⟩
noncomputable def s26_137 (_ : Params) : Obj := ⟨(.type "code"), none, (.fields #[(.str (Str.mk #[105, 110, 95, 116, 97, 98, 108, 101, 95, 99, 56]) 2298), (.str (Str.mk #[105, 110, 95, 116, 97, 98, 108, 101, 95, 99, 56]) 2299), (.str (Str.mk #[47, 99, 108, 97, 105, 109, 47, 99, 117, 116, 46, 112, 121]) 2300), (.int 60 0), (.int 1 0), (.int 0 0), (.int 0 0), (.int 3 0), (.ref 132), (.bool true), (.int 181 0), (.ref 133), .none, (.ref 134), (.ref 135), (.ref 136), (.int 2302 0), (.int 60 0), (.str (Str.mk #[47, 99, 108, 97, 105, 109, 47, 99, 117, 116, 46, 112, 121]) 2303)]), #[]⟩
noncomputable def s26_138 (_ : Params) : Obj := ⟨(.type "function"), none, (.func ⟨(Str.mk #[105, 110, 95, 116, 97, 98, 108, 101, 95, 99, 56]), (Str.mk #[105, 110, 95, 116, 97, 98, 108, 101, 95, 99, 56]), parAt 13, .stmts (bodyAt 13), scoAt 13, 3, [], .none, .none, .none, (.str (Str.mk #[99, 112, 121, 51, 49, 51, 46, 115, 116, 114, 105, 110, 103, 112, 114, 101, 112]) 288), none, (.ref 137), .none, 0⟩), #[]⟩
noncomputable def s26_139 (_ : Params) : Obj := ⟨(.type "tuple"), none, (.seq #[] 0), #[]⟩
noncomputable def s26_140 (_ : Params) : Obj := ⟨.none, none, (.fields #[]), #[]⟩
noncomputable def s26_141 (_ : Params) : Obj := ⟨(.type "tuple"), none, (.seq #[(.str (Str.mk #[115, 99, 114, 105, 112, 116]) 2310), (.str (Str.mk #[100, 114, 97, 119, 110]) 2311), (.str (Str.mk #[112, 108, 97, 99, 101]) 2312)] 0), #[]⟩
noncomputable def s26_142 (_ : Params) : Obj := ⟨(.type "tuple"), none, (.seq #[] 0), #[]⟩
noncomputable def s26_143 (_ : Params) : Obj := ⟨.none, none, (.func ⟨(Str.mk #[95, 108, 97, 119, 95, 100, 114, 97, 119, 110]), (Str.mk #[95, 108, 97, 119, 95, 100, 114, 97, 119, 110]), parAt 15, .stmts (bodyAt 15), scoAt 15, 0, [], .none, .none, .none, .none, none, .none, .none, 0⟩), #[]⟩
noncomputable def s26_144 (_ : Params) : Obj := ⟨(.type "code"), none, (.fields #[(.str (Str.mk #[95, 108, 97, 119, 95, 100, 114, 97, 119, 110]) 2307), (.str (Str.mk #[95, 108, 97, 119, 95, 100, 114, 97, 119, 110]) 2308), (.str (Str.mk #[47, 99, 108, 97, 105, 109, 47, 99, 117, 116, 46, 112, 121]) 2309), (.int 63 0), (.int 1 0), (.int 0 0), (.int 0 0), (.int 3 0), (.ref 139), (.bool true), (.int 181 0), (.ref 140), .none, (.ref 141), (.ref 142), (.ref 143), (.int 2313 0), (.int 63 0), (.str (Str.mk #[47, 99, 108, 97, 105, 109, 47, 99, 117, 116, 46, 112, 121]) 2314)]), #[]⟩
noncomputable def s26_145 (_ : Params) : Obj := ⟨(.type "function"), none, (.func ⟨(Str.mk #[95, 108, 97, 119, 95, 100, 114, 97, 119, 110]), (Str.mk #[95, 108, 97, 119, 95, 100, 114, 97, 119, 110]), parAt 15, .stmts (bodyAt 15), scoAt 15, 3, [], .none, .none, .none, (.str (Str.mk #[108, 97, 119, 95, 119, 107, 48, 48, 51, 54, 95, 48, 49]) 2305), none, (.ref 144), .none, 0⟩), #[]⟩
noncomputable def s26_146 (_ : Params) : Obj := ⟨(.type "tuple"), none, (.seq #[] 0), #[]⟩
noncomputable def s26_147 (_ : Params) : Obj := ⟨.none, none, (.fields #[]), #[]⟩
noncomputable def s26_148 (_ : Params) : Obj := ⟨(.type "tuple"), none, (.seq #[(.str (Str.mk #[110, 117, 109, 98, 101, 114]) 2319), (.str (Str.mk #[102, 105, 103, 117, 114, 101]) 2320)] 0), #[]⟩
noncomputable def s26_149 (_ : Params) : Obj := ⟨(.type "tuple"), none, (.seq #[] 0), #[]⟩
noncomputable def s26_150 (_ : Params) : Obj := ⟨.none, none, (.func ⟨(Str.mk #[95, 108, 97, 119, 95, 116, 117, 114, 110]), (Str.mk #[95, 108, 97, 119, 95, 116, 117, 114, 110]), parAt 16, .stmts (bodyAt 16), scoAt 16, 0, [], .none, .none, .none, .none, none, .none, .none, 0⟩), #[]⟩
noncomputable def s26_151 (_ : Params) : Obj := ⟨(.type "code"), none, (.fields #[(.str (Str.mk #[95, 108, 97, 119, 95, 116, 117, 114, 110]) 2316), (.str (Str.mk #[95, 108, 97, 119, 95, 116, 117, 114, 110]) 2317), (.str (Str.mk #[47, 99, 108, 97, 105, 109, 47, 99, 117, 116, 46, 112, 121]) 2318), (.int 68 0), (.int 1 0), (.int 0 0), (.int 0 0), (.int 3 0), (.ref 146), (.bool true), (.int 181 0), (.ref 147), .none, (.ref 148), (.ref 149), (.ref 150), (.int 2321 0), (.int 68 0), (.str (Str.mk #[47, 99, 108, 97, 105, 109, 47, 99, 117, 116, 46, 112, 121]) 2322)]), #[]⟩
noncomputable def s26_152 (_ : Params) : Obj := ⟨(.type "function"), none, (.func ⟨(Str.mk #[95, 108, 97, 119, 95, 116, 117, 114, 110]), (Str.mk #[95, 108, 97, 119, 95, 116, 117, 114, 110]), parAt 16, .stmts (bodyAt 16), scoAt 16, 3, [], .none, .none, .none, (.str (Str.mk #[108, 97, 119, 95, 119, 107, 48, 48, 51, 54, 95, 48, 49]) 2305), none, (.ref 151), .none, 0⟩), #[]⟩
noncomputable def s26_153 (_ : Params) : Obj := ⟨(.type "tuple"), none, (.seq #[] 0), #[]⟩
noncomputable def s26_154 (_ : Params) : Obj := ⟨.none, none, (.fields #[]), #[]⟩
noncomputable def s26_155 (_ : Params) : Obj := ⟨(.type "tuple"), none, (.seq #[(.str (Str.mk #[110, 117, 109, 98, 101, 114]) 2327), (.str (Str.mk #[102, 111, 114, 109]) 2328), (.str (Str.mk #[108, 101, 116, 116, 101, 114]) 2329), (.str (Str.mk #[98, 101, 115, 105, 100, 101]) 2330)] 0), #[]⟩
noncomputable def s26_156 (_ : Params) : Obj := ⟨(.type "tuple"), none, (.seq #[] 0), #[]⟩
noncomputable def s26_157 (_ : Params) : Obj := ⟨.none, none, (.func ⟨(Str.mk #[95, 108, 97, 119, 95, 103, 111, 111, 100]), (Str.mk #[95, 108, 97, 119, 95, 103, 111, 111, 100]), parAt 17, .stmts (bodyAt 17), scoAt 17, 0, [], .none, .none, .none, .none, none, .none, .none, 0⟩), #[]⟩
noncomputable def s26_158 (_ : Params) : Obj := ⟨(.type "code"), none, (.fields #[(.str (Str.mk #[95, 108, 97, 119, 95, 103, 111, 111, 100]) 2324), (.str (Str.mk #[95, 108, 97, 119, 95, 103, 111, 111, 100]) 2325), (.str (Str.mk #[47, 99, 108, 97, 105, 109, 47, 99, 117, 116, 46, 112, 121]) 2326), (.int 75 0), (.int 1 0), (.int 0 0), (.int 0 0), (.int 3 0), (.ref 153), (.bool true), (.int 181 0), (.ref 154), .none, (.ref 155), (.ref 156), (.ref 157), (.int 2331 0), (.int 75 0), (.str (Str.mk #[47, 99, 108, 97, 105, 109, 47, 99, 117, 116, 46, 112, 121]) 2332)]), #[]⟩
noncomputable def s26_159 (_ : Params) : Obj := ⟨(.type "function"), none, (.func ⟨(Str.mk #[95, 108, 97, 119, 95, 103, 111, 111, 100]), (Str.mk #[95, 108, 97, 119, 95, 103, 111, 111, 100]), parAt 17, .stmts (bodyAt 17), scoAt 17, 3, [], .none, .none, .none, (.str (Str.mk #[108, 97, 119, 95, 119, 107, 48, 48, 51, 54, 95, 48, 49]) 2305), none, (.ref 158), .none, 0⟩), #[]⟩
noncomputable def s26_160 (_ : Params) : Obj := ⟨(.type "tuple"), none, (.seq #[] 0), #[]⟩
noncomputable def s26_161 (_ : Params) : Obj := ⟨.none, none, (.fields #[]), #[]⟩
noncomputable def s26_162 (_ : Params) : Obj := ⟨(.type "tuple"), none, (.seq #[(.str (Str.mk #[115, 105, 103, 110]) 2337), (.str (Str.mk #[112, 108, 97, 99, 101]) 2338)] 0), #[]⟩
noncomputable def s26_163 (_ : Params) : Obj := ⟨(.type "tuple"), none, (.seq #[] 0), #[]⟩
noncomputable def s26_164 (_ : Params) : Obj := ⟨.none, none, (.func ⟨(Str.mk #[95, 108, 97, 119, 95, 99, 111, 100, 101, 115]), (Str.mk #[95, 108, 97, 119, 95, 99, 111, 100, 101, 115]), parAt 18, .stmts (bodyAt 18), scoAt 18, 0, [], .none, .none, .none, .none, none, .none, .none, 0⟩), #[]⟩
noncomputable def s26_165 (_ : Params) : Obj := ⟨(.type "code"), none, (.fields #[(.str (Str.mk #[95, 108, 97, 119, 95, 99, 111, 100, 101, 115]) 2334), (.str (Str.mk #[95, 108, 97, 119, 95, 99, 111, 100, 101, 115]) 2335), (.str (Str.mk #[47, 99, 108, 97, 105, 109, 47, 99, 117, 116, 46, 112, 121]) 2336), (.int 87 0), (.int 2 0), (.int 0 0), (.int 0 0), (.int 3 0), (.ref 160), (.bool true), (.int 181 0), (.ref 161), .none, (.ref 162), (.ref 163), (.ref 164), (.int 2339 0), (.int 87 0), (.str (Str.mk #[47, 99, 108, 97, 105, 109, 47, 99, 117, 116, 46, 112, 121]) 2340)]), #[]⟩
noncomputable def s26_166 (_ : Params) : Obj := ⟨(.type "function"), none, (.func ⟨(Str.mk #[95, 108, 97, 119, 95, 99, 111, 100, 101, 115]), (Str.mk #[95, 108, 97, 119, 95, 99, 111, 100, 101, 115]), parAt 18, .stmts (bodyAt 18), scoAt 18, 3, [], .none, .none, .none, (.str (Str.mk #[108, 97, 119, 95, 119, 107, 48, 48, 51, 54, 95, 48, 49]) 2305), none, (.ref 165), .none, 0⟩), #[]⟩
noncomputable def s26_167 (_ : Params) : Obj := ⟨(.type "tuple"), none, (.seq #[] 0), #[]⟩
noncomputable def s26_168 (_ : Params) : Obj := ⟨.none, none, (.fields #[]), #[]⟩
noncomputable def s26_169 (_ : Params) : Obj := ⟨(.type "tuple"), none, (.seq #[(.str (Str.mk #[116, 111, 108, 100]) 2345), (.str (Str.mk #[116, 117, 114, 110, 115]) 2346), (.str (Str.mk #[119, 111, 114, 116, 104]) 2347), (.str (Str.mk #[115, 105, 103, 110]) 2348), (.str (Str.mk #[112, 108, 97, 99, 101]) 2349)] 0), #[]⟩
noncomputable def s26_170 (_ : Params) : Obj := ⟨(.type "tuple"), none, (.seq #[] 0), #[]⟩
noncomputable def s26_171 (_ : Params) : Obj := ⟨.none, none, (.func ⟨(Str.mk #[95, 108, 97, 119, 95, 104, 101, 97, 114, 100]), (Str.mk #[95, 108, 97, 119, 95, 104, 101, 97, 114, 100]), parAt 19, .stmts (bodyAt 19), scoAt 19, 0, [], .none, .none, .none, .none, none, .none, .none, 0⟩), #[]⟩
noncomputable def s26_172 (_ : Params) : Obj := ⟨(.type "code"), none, (.fields #[(.str (Str.mk #[95, 108, 97, 119, 95, 104, 101, 97, 114, 100]) 2342), (.str (Str.mk #[95, 108, 97, 119, 95, 104, 101, 97, 114, 100]) 2343), (.str (Str.mk #[47, 99, 108, 97, 105, 109, 47, 99, 117, 116, 46, 112, 121]) 2344), (.int 91 0), (.int 1 0), (.int 0 0), (.int 0 0), (.int 3 0), (.ref 167), (.bool true), (.int 181 0), (.ref 168), .none, (.ref 169), (.ref 170), (.ref 171), (.int 2350 0), (.int 91 0), (.str (Str.mk #[47, 99, 108, 97, 105, 109, 47, 99, 117, 116, 46, 112, 121]) 2351)]), #[]⟩
noncomputable def s26_173 (_ : Params) : Obj := ⟨(.type "function"), none, (.func ⟨(Str.mk #[95, 108, 97, 119, 95, 104, 101, 97, 114, 100]), (Str.mk #[95, 108, 97, 119, 95, 104, 101, 97, 114, 100]), parAt 19, .stmts (bodyAt 19), scoAt 19, 3, [], .none, .none, .none, (.str (Str.mk #[108, 97, 119, 95, 119, 107, 48, 48, 51, 54, 95, 48, 49]) 2305), none, (.ref 172), .none, 0⟩), #[]⟩
noncomputable def s26_174 (_ : Params) : Obj := ⟨(.type "tuple"), none, (.seq #[] 0), #[]⟩
noncomputable def s26_175 (_ : Params) : Obj := ⟨.none, none, (.fields #[]), #[]⟩
noncomputable def s26_176 (_ : Params) : Obj := ⟨.none, none, (.func ⟨(Str.mk #[95, 108, 97, 119, 95, 112, 108, 97, 121, 101, 100]), (Str.mk #[95, 108, 97, 119, 95, 112, 108, 97, 121, 101, 100]), parAt 20, .stmts (bodyAt 20), scoAt 20, 0, [], .none, .none, .none, .none, none, .none, .none, 0⟩), #[]⟩
noncomputable def s26_177 (_ : Params) : Obj := ⟨(.type "code"), none, (.fields #[(.str (Str.mk #[95, 108, 97, 119, 95, 112, 108, 97, 121, 101, 100]) 2353), (.str (Str.mk #[95, 108, 97, 119, 95, 112, 108, 97, 121, 101, 100]) 2354), (.str (Str.mk #[47, 99, 108, 97, 105, 109, 47, 99, 117, 116, 46, 112, 121]) 2355), (.int 103 0), (.int 2 0), (.int 0 0), (.int 0 0), (.int 3 0), (.ref 174), (.bool true), (.int 181 0), (.ref 175), .none, .none, .none, (.ref 176), (.int 2356 0), (.int 103 0), (.str (Str.mk #[47, 99, 108, 97, 105, 109, 47, 99, 117, 116, 46, 112, 121]) 2357)]), #[]⟩
noncomputable def s26_178 (_ : Params) : Obj := ⟨(.type "function"), none, (.func ⟨(Str.mk #[95, 108, 97, 119, 95, 112, 108, 97, 121, 101, 100]), (Str.mk #[95, 108, 97, 119, 95, 112, 108, 97, 121, 101, 100]), parAt 20, .stmts (bodyAt 20), scoAt 20, 3, [], .none, .none, .none, (.str (Str.mk #[108, 97, 119, 95, 119, 107, 48, 48, 51, 54, 95, 48, 49]) 2305), none, (.ref 177), .none, 0⟩), #[]⟩
noncomputable def s26_179 (_ : Params) : Obj := ⟨(.type "tuple"), none, (.seq #[] 0), #[]⟩
noncomputable def s26_180 (_ : Params) : Obj := ⟨.none, none, (.fields #[]), #[]⟩
noncomputable def s26_181 (_ : Params) : Obj := ⟨.none, none, (.func ⟨(Str.mk #[95, 108, 97, 119, 95, 99, 114, 111, 115, 115, 101, 100]), (Str.mk #[95, 108, 97, 119, 95, 99, 114, 111, 115, 115, 101, 100]), parAt 21, .stmts (bodyAt 21), scoAt 21, 0, [], .none, .none, .none, .none, none, .none, .none, 0⟩), #[]⟩
noncomputable def s26_182 (_ : Params) : Obj := ⟨(.type "code"), none, (.fields #[(.str (Str.mk #[95, 108, 97, 119, 95, 99, 114, 111, 115, 115, 101, 100]) 2359), (.str (Str.mk #[95, 108, 97, 119, 95, 99, 114, 111, 115, 115, 101, 100]) 2360), (.str (Str.mk #[47, 99, 108, 97, 105, 109, 47, 99, 117, 116, 46, 112, 121]) 2361), (.int 118 0), (.int 2 0), (.int 0 0), (.int 0 0), (.int 3 0), (.ref 179), (.bool true), (.int 181 0), (.ref 180), .none, .none, .none, (.ref 181), (.int 2362 0), (.int 118 0), (.str (Str.mk #[47, 99, 108, 97, 105, 109, 47, 99, 117, 116, 46, 112, 121]) 2363)]), #[]⟩
noncomputable def s26_183 (_ : Params) : Obj := ⟨(.type "function"), none, (.func ⟨(Str.mk #[95, 108, 97, 119, 95, 99, 114, 111, 115, 115, 101, 100]), (Str.mk #[95, 108, 97, 119, 95, 99, 114, 111, 115, 115, 101, 100]), parAt 21, .stmts (bodyAt 21), scoAt 21, 3, [], .none, .none, .none, (.str (Str.mk #[108, 97, 119, 95, 119, 107, 48, 48, 51, 54, 95, 48, 49]) 2305), none, (.ref 182), .none, 0⟩), #[]⟩
noncomputable def s26_184 (_ : Params) : Obj := ⟨(.type "tuple"), none, (.seq #[] 0), #[]⟩
noncomputable def s26_185 (_ : Params) : Obj := ⟨.none, none, (.fields #[]), #[]⟩
noncomputable def s26_186 (_ : Params) : Obj := ⟨.none, none, (.func ⟨(Str.mk #[95, 108, 97, 119, 95, 119, 111, 114, 100, 101, 100]), (Str.mk #[95, 108, 97, 119, 95, 119, 111, 114, 100, 101, 100]), parAt 22, .stmts (bodyAt 22), scoAt 22, 0, [], .none, .none, .none, .none, none, .none, .none, 0⟩), #[]⟩
noncomputable def s26_187 (_ : Params) : Obj := ⟨(.type "code"), none, (.fields #[(.str (Str.mk #[95, 108, 97, 119, 95, 119, 111, 114, 100, 101, 100]) 2365), (.str (Str.mk #[95, 108, 97, 119, 95, 119, 111, 114, 100, 101, 100]) 2366), (.str (Str.mk #[47, 99, 108, 97, 105, 109, 47, 99, 117, 116, 46, 112, 121]) 2367), (.int 125 0), (.int 1 0), (.int 0 0), (.int 0 0), (.int 3 0), (.ref 184), (.bool true), (.int 181 0), (.ref 185), .none, .none, .none, (.ref 186), (.int 2368 0), (.int 125 0), (.str (Str.mk #[47, 99, 108, 97, 105, 109, 47, 99, 117, 116, 46, 112, 121]) 2369)]), #[]⟩
noncomputable def s26_188 (_ : Params) : Obj := ⟨(.type "function"), none, (.func ⟨(Str.mk #[95, 108, 97, 119, 95, 119, 111, 114, 100, 101, 100]), (Str.mk #[95, 108, 97, 119, 95, 119, 111, 114, 100, 101, 100]), parAt 22, .stmts (bodyAt 22), scoAt 22, 3, [], .none, .none, .none, (.str (Str.mk #[108, 97, 119, 95, 119, 107, 48, 48, 51, 54, 95, 48, 49]) 2305), none, (.ref 187), .none, 0⟩), #[]⟩
noncomputable def s26_189 (_ : Params) : Obj := ⟨(.type "tuple"), none, (.seq #[] 0), #[]⟩
noncomputable def s26_190 (_ : Params) : Obj := ⟨.none, none, (.fields #[]), #[]⟩
noncomputable def s26_191 (_ : Params) : Obj := ⟨(.type "tuple"), none, (.seq #[(.str (Str.mk #[116, 117, 114, 110, 115]) 2374), (.str (Str.mk #[119, 104, 111]) 2375), (.str (Str.mk #[108, 101, 97, 100]) 2376), (.str (Str.mk #[109, 111, 115, 116]) 2377), (.str (Str.mk #[116, 117, 114, 110]) 2378)] 0), #[]⟩
noncomputable def s26_192 (_ : Params) : Obj := ⟨(.type "tuple"), none, (.seq #[] 0), #[]⟩
noncomputable def s26_193 (_ : Params) : Obj := ⟨.none, none, (.func ⟨(Str.mk #[95, 108, 97, 119, 95, 97, 104, 101, 97, 100]), (Str.mk #[95, 108, 97, 119, 95, 97, 104, 101, 97, 100]), parAt 23, .stmts (bodyAt 23), scoAt 23, 0, [], .none, .none, .none, .none, none, .none, .none, 0⟩), #[]⟩
noncomputable def s26_194 (_ : Params) : Obj := ⟨(.type "code"), none, (.fields #[(.str (Str.mk #[95, 108, 97, 119, 95, 97, 104, 101, 97, 100]) 2371), (.str (Str.mk #[95, 108, 97, 119, 95, 97, 104, 101, 97, 100]) 2372), (.str (Str.mk #[47, 99, 108, 97, 105, 109, 47, 99, 117, 116, 46, 112, 121]) 2373), (.int 130 0), (.int 2 0), (.int 0 0), (.int 0 0), (.int 3 0), (.ref 189), (.bool true), (.int 181 0), (.ref 190), .none, (.ref 191), (.ref 192), (.ref 193), (.int 2379 0), (.int 130 0), (.str (Str.mk #[47, 99, 108, 97, 105, 109, 47, 99, 117, 116, 46, 112, 121]) 2380)]), #[]⟩
noncomputable def s26_195 (_ : Params) : Obj := ⟨(.type "function"), none, (.func ⟨(Str.mk #[95, 108, 97, 119, 95, 97, 104, 101, 97, 100]), (Str.mk #[95, 108, 97, 119, 95, 97, 104, 101, 97, 100]), parAt 23, .stmts (bodyAt 23), scoAt 23, 3, [], .none, .none, .none, (.str (Str.mk #[108, 97, 119, 95, 119, 107, 48, 48, 51, 54, 95, 48, 49]) 2305), none, (.ref 194), .none, 0⟩), #[]⟩
noncomputable def s26_196 (_ : Params) : Obj := ⟨(.type "tuple"), none, (.seq #[] 0), #[]⟩
noncomputable def s26_197 (_ : Params) : Obj := ⟨.none, none, (.fields #[]), #[]⟩
noncomputable def s26_198 (_ : Params) : Obj := ⟨.none, none, (.func ⟨(Str.mk #[95, 108, 97, 119, 95, 99, 111, 110, 116, 101, 110, 116]), (Str.mk #[95, 108, 97, 119, 95, 99, 111, 110, 116, 101, 110, 116]), parAt 24, .stmts (bodyAt 24), scoAt 24, 0, [], .none, .none, .none, .none, none, .none, .none, 0⟩), #[]⟩
noncomputable def s26_199 (_ : Params) : Obj := ⟨(.type "code"), none, (.fields #[(.str (Str.mk #[95, 108, 97, 119, 95, 99, 111, 110, 116, 101, 110, 116]) 2382), (.str (Str.mk #[95, 108, 97, 119, 95, 99, 111, 110, 116, 101, 110, 116]) 2383), (.str (Str.mk #[47, 99, 108, 97, 105, 109, 47, 99, 117, 116, 46, 112, 121]) 2384), (.int 136 0), (.int 3 0), (.int 0 0), (.int 0 0), (.int 3 0), (.ref 196), (.bool true), (.int 181 0), (.ref 197), .none, .none, .none, (.ref 198), (.int 2385 0), (.int 136 0), (.str (Str.mk #[47, 99, 108, 97, 105, 109, 47, 99, 117, 116, 46, 112, 121]) 2386)]), #[]⟩
noncomputable def s26_200 (_ : Params) : Obj := ⟨(.type "function"), none, (.func ⟨(Str.mk #[95, 108, 97, 119, 95, 99, 111, 110, 116, 101, 110, 116]), (Str.mk #[95, 108, 97, 119, 95, 99, 111, 110, 116, 101, 110, 116]), parAt 24, .stmts (bodyAt 24), scoAt 24, 3, [], .none, .none, .none, (.str (Str.mk #[108, 97, 119, 95, 119, 107, 48, 48, 51, 54, 95, 48, 49]) 2305), none, (.ref 199), .none, 0⟩), #[]⟩
noncomputable def s26_201 (_ : Params) : Obj := ⟨(.type "tuple"), none, (.seq #[] 0), #[]⟩
noncomputable def s26_202 (_ : Params) : Obj := ⟨.none, none, (.fields #[]), #[]⟩
noncomputable def s26_203 (_ : Params) : Obj := ⟨.none, none, (.func ⟨(Str.mk #[108, 97, 119]), (Str.mk #[108, 97, 119]), parAt 25, .stmts (bodyAt 25), scoAt 25, 0, [], .none, .none, .none, .none, none, .none, .none, 0⟩), #[]⟩
noncomputable def s26_204 (_ : Params) : Obj := ⟨(.type "code"), none, (.fields #[(.str (Str.mk #[108, 97, 119]) 2388), (.str (Str.mk #[108, 97, 119]) 2389), (.str (Str.mk #[47, 99, 108, 97, 105, 109, 47, 99, 117, 116, 46, 112, 121]) 2390), (.int 142 0), (.int 1 0), (.int 0 0), (.int 0 0), (.int 3 0), (.ref 201), (.bool true), (.int 181 0), (.ref 202), .none, .none, .none, (.ref 203), (.int 2391 0), (.int 142 0), (.str (Str.mk #[47, 99, 108, 97, 105, 109, 47, 99, 117, 116, 46, 112, 121]) 2392)]), #[]⟩
noncomputable def s26_205 (_ : Params) : Obj := ⟨(.type "function"), none, (.func ⟨(Str.mk #[108, 97, 119]), (Str.mk #[108, 97, 119]), parAt 25, .stmts (bodyAt 25), scoAt 25, 3, [], .none, .none, .none, (.str (Str.mk #[108, 97, 119, 95, 119, 107, 48, 48, 51, 54, 95, 48, 49]) 2305), none, (.ref 204), .none, 0⟩), #[]⟩
noncomputable def s26_tree (P : Params) : BT := (.node (PySem.W.boot_o_0 P) (.node (PySem.W.boot_o_1 P) (.node (s26_3 P) (.node (PySem.W.boot_o_7 P) (.node (z9_15 P) (.node (z9_31 P) (.node (s10_63 P) (.node (s13_127 P) .nil .nil) (.node (s26_191 P) .nil .nil)) (.node (s10_95 P) (.node (s26_159 P) .nil .nil) .nil)) (.node (z9_47 P) (.node (s10_79 P) (.node (s26_143 P) .nil .nil) .nil) (.node (s12_111 P) (.node (s26_175 P) .nil .nil) .nil))) (.node (z9_23 P) (.node (z9_39 P) (.node (s10_71 P) (.node (s26_135 P) .nil .nil) (.node (s26_199 P) .nil .nil)) (.node (s12_103 P) (.node (s26_167 P) .nil .nil) .nil)) (.node (z9_55 P) (.node (s10_87 P) (.node (s26_151 P) .nil .nil) .nil) (.node (s13_119 P) (.node (s26_183 P) .nil .nil) .nil)))) (.node (z0_11 P) (.node (z9_19 P) (.node (z9_35 P) (.node (s10_67 P) (.node (s13_131 P) .nil .nil) (.node (s26_195 P) .nil .nil)) (.node (s10_99 P) (.node (s26_163 P) .nil .nil) .nil)) (.node (z9_51 P) (.node (s10_83 P) (.node (s26_147 P) .nil .nil) .nil) (.node (s13_115 P) (.node (s26_179 P) .nil .nil) .nil))) (.node (z9_27 P) (.node (z9_43 P) (.node (s10_75 P) (.node (s26_139 P) .nil .nil) (.node (s26_203 P) .nil .nil)) (.node (s12_107 P) (.node (s26_171 P) .nil .nil) .nil)) (.node (z9_59 P) (.node (s10_91 P) (.node (s26_155 P) .nil .nil) .nil) (.node (s13_123 P) (.node (s26_187 P) .nil .nil) .nil))))) (.node (PySem.W.boot_o_5 P) (.node (PySem.W.boot_o_9 P) (.node (z9_17 P) (.node (z9_33 P) (.node (s10_65 P) (.node (s13_129 P) .nil .nil) (.node (s26_193 P) .nil .nil)) (.node (s10_97 P) (.node (s26_161 P) .nil .nil) .nil)) (.node (z9_49 P) (.node (s10_81 P) (.node (s26_145 P) .nil .nil) .nil) (.node (s12_113 P) (.node (s26_177 P) .nil .nil) .nil))) (.node (z9_25 P) (.node (z9_41 P) (.node (s10_73 P) (.node (s26_137 P) .nil .nil) (.node (s26_201 P) .nil .nil)) (.node (s12_105 P) (.node (s26_169 P) .nil .nil) .nil)) (.node (z9_57 P) (.node (s10_89 P) (.node (s26_153 P) .nil .nil) .nil) (.node (s13_121 P) (.node (s26_185 P) .nil .nil) .nil)))) (.node (z0_13 P) (.node (z9_21 P) (.node (z9_37 P) (.node (s10_69 P) (.node (s26_133 P) .nil .nil) (.node (s26_197 P) .nil .nil)) (.node (s12_101 P) (.node (s26_165 P) .nil .nil) .nil)) (.node (z9_53 P) (.node (s10_85 P) (.node (s26_149 P) .nil .nil) .nil) (.node (s13_117 P) (.node (s26_181 P) .nil .nil) .nil))) (.node (z9_29 P) (.node (z9_45 P) (.node (s10_77 P) (.node (s26_141 P) .nil .nil) (.node (s26_205 P) .nil .nil)) (.node (s12_109 P) (.node (s26_173 P) .nil .nil) .nil)) (.node (z9_61 P) (.node (s10_93 P) (.node (s26_157 P) .nil .nil) .nil) (.node (s13_125 P) (.node (s26_189 P) .nil .nil) .nil)))))) (.node (z9_2 P) (.node (PySem.W.boot_o_4 P) (.node (PySem.W.boot_o_8 P) (.node (z9_16 P) (.node (z9_32 P) (.node (s10_64 P) (.node (s13_128 P) .nil .nil) (.node (s26_192 P) .nil .nil)) (.node (s10_96 P) (.node (s26_160 P) .nil .nil) .nil)) (.node (z9_48 P) (.node (s10_80 P) (.node (s26_144 P) .nil .nil) .nil) (.node (s12_112 P) (.node (s26_176 P) .nil .nil) .nil))) (.node (z9_24 P) (.node (z9_40 P) (.node (s10_72 P) (.node (s26_136 P) .nil .nil) (.node (s26_200 P) .nil .nil)) (.node (s12_104 P) (.node (s26_168 P) .nil .nil) .nil)) (.node (z9_56 P) (.node (s10_88 P) (.node (s26_152 P) .nil .nil) .nil) (.node (s13_120 P) (.node (s26_184 P) .nil .nil) .nil)))) (.node (s26_12 P) (.node (z9_20 P) (.node (z9_36 P) (.node (s10_68 P) (.node (s26_132 P) .nil .nil) (.node (s26_196 P) .nil .nil)) (.node (s10_100 P) (.node (s26_164 P) .nil .nil) .nil)) (.node (z9_52 P) (.node (s10_84 P) (.node (s26_148 P) .nil .nil) .nil) (.node (s13_116 P) (.node (s26_180 P) .nil .nil) .nil))) (.node (z9_28 P) (.node (z9_44 P) (.node (s10_76 P) (.node (s26_140 P) .nil .nil) (.node (s26_204 P) .nil .nil)) (.node (s12_108 P) (.node (s26_172 P) .nil .nil) .nil)) (.node (z9_60 P) (.node (s10_92 P) (.node (s26_156 P) .nil .nil) .nil) (.node (s13_124 P) (.node (s26_188 P) .nil .nil) .nil))))) (.node (PySem.W.boot_o_6 P) (.node (PySem.W.boot_o_10 P) (.node (z9_18 P) (.node (z9_34 P) (.node (s10_66 P) (.node (s13_130 P) .nil .nil) (.node (s26_194 P) .nil .nil)) (.node (s10_98 P) (.node (s26_162 P) .nil .nil) .nil)) (.node (z9_50 P) (.node (s10_82 P) (.node (s26_146 P) .nil .nil) .nil) (.node (s12_114 P) (.node (s26_178 P) .nil .nil) .nil))) (.node (z9_26 P) (.node (z9_42 P) (.node (s10_74 P) (.node (s26_138 P) .nil .nil) (.node (s26_202 P) .nil .nil)) (.node (s12_106 P) (.node (s26_170 P) .nil .nil) .nil)) (.node (z9_58 P) (.node (s10_90 P) (.node (s26_154 P) .nil .nil) .nil) (.node (s13_122 P) (.node (s26_186 P) .nil .nil) .nil)))) (.node (z0_14 P) (.node (z9_22 P) (.node (z9_38 P) (.node (s10_70 P) (.node (s26_134 P) .nil .nil) (.node (s26_198 P) .nil .nil)) (.node (s12_102 P) (.node (s26_166 P) .nil .nil) .nil)) (.node (z9_54 P) (.node (s10_86 P) (.node (s26_150 P) .nil .nil) .nil) (.node (s13_118 P) (.node (s26_182 P) .nil .nil) .nil))) (.node (z9_30 P) (.node (z9_46 P) (.node (s10_78 P) (.node (s26_142 P) .nil .nil) .nil) (.node (s12_110 P) (.node (s26_174 P) .nil .nil) .nil)) (.node (s10_62 P) (.node (s10_94 P) (.node (s26_158 P) .nil .nil) .nil) (.node (s13_126 P) (.node (s26_190 P) .nil .nil) .nil)))))))
noncomputable def s26_n : Nat := 206
noncomputable def s26_toks : Nat := 2394
end Mine
end
section
open PySem PySem.W PyProof.Rows
set_option maxRecDepth 100000
namespace Mine
noncomputable def stsA : List Stmt := [stAt 0, stAt 1, stAt 2, stAt 3, stAt 4, stAt 5, stAt 6, stAt 7, stAt 8]
noncomputable def stsC : List Stmt := [stAt 10, stAt 11]
noncomputable def stsD : List Stmt := [stAt 12]
noncomputable def stsE : List Stmt := [stAt 13, stAt 14, stAt 15, stAt 16, stAt 17, stAt 18, stAt 19]
noncomputable def stsF : List Stmt := [stAt 20, stAt 21, stAt 22, stAt 23, stAt 24, stAt 25]
noncomputable abbrev S0 (w : World) (os : OsState) : SharedT := ⟨Mine.z0_tree w.params, 15, {}, #[], {}, 187, os⟩
noncomputable abbrev S9 (w : World) (os : OsState) : SharedT := ⟨Mine.z9_tree w.params, 62, {}, #[], {}, 290, os⟩
noncomputable abbrev S10 (w : World) (os : OsState) : SharedT := ⟨s10_tree w.params, 101, {}, #[], {}, 2241, os⟩
noncomputable abbrev S12 (w : World) (os : OsState) : SharedT := ⟨s12_tree w.params, 115, {}, #[], {}, 2257, os⟩
noncomputable abbrev S13 (w : World) (os : OsState) : SharedT := ⟨s13_tree w.params, 132, {}, #[], {}, 2298, os⟩
noncomputable abbrev S26 (w : World) (os : OsState) : SharedT := ⟨s26_tree w.params, 206, {}, #[], {}, 2394, os⟩
noncomputable abbrev q0 : Pos := ⟨0, 0, 0, 0⟩
noncomputable abbrev cdE (b : List Stmt) : Code := Code.body b Mine.env1
noncomputable def PA (w : World) : Prop := ∀ (p : Program) (b : List Stmt) (os : OsState), segRunT treeTable p w 11 (some (.ref 6)) 1 675 (S0 w os) (piecesOf stsA Mine.env1 (cdE b) q0 [topFrame q0])
   = some (.next, S9 w os, cdE b, ⟨45, 0, 45, 8⟩)
theorem gA_f (w : World) : PA (w.withFollow "special-get-raises" false) := by
  intro p b os
  rw [PySem.W.Fast.te10110043849684766642, PySem.W.Fast.te14364793385576792824]
  kernel_rfl
theorem gA_t (w : World) : PA (w.withFollow "special-get-raises" true) := by
  intro p b os
  rw [PySem.W.Fast.te10110043849684766642, PySem.W.Fast.te14364793385576792824]
  kernel_rfl
theorem gA (p : Program) (b : List Stmt) (w : World) (os : OsState) : segRunT treeTable p w 11 (some (.ref 6)) 1 675 (S0 w os) (piecesOf stsA Mine.env1 (cdE b) q0 [topFrame q0])
   = some (.next, S9 w os, cdE b, ⟨45, 0, 45, 8⟩) := (byRow2 "special-get-raises" (P := PA) gA_f gA_t w) p b os
theorem nine_run (p : Program) (b : List Stmt) (w : World) (os : OsState) (rest : List Stmt) (N : Nat) (r : Shared)
    (k : topRun treeTable p w 11 (some (.ref 6)) N (S9 w os).abs (restOf rest Mine.env1 (cdE b) ⟨45, 0, 45, 8⟩ [topFrame q0]) = some r) :
    topRun treeTable p w 11 (some (.ref 6)) (675 + N) (S0 w os).abs (restOf (stsA ++ rest) Mine.env1 (cdE b) q0 [topFrame q0]) = some r := piece_app (segRun_of (gA p b w os)) k
theorem gC (p : Program) (b : List Stmt) (w : World) (os : OsState) : segRunT treeTable p w 11 (some (.ref 6)) 1 61 (S10 w os) (piecesOf stsC Mine.env1 (cdE b) ⟨46, 0, 46, 13⟩ [topFrame q0])
   = some (.next, S12 w os, cdE b, ⟨52, 0, 58, 46⟩) := by
  rw [PySem.W.Fast.te10110043849684766642, PySem.W.Fast.te14364793385576792824]
  kernel_rfl
theorem gF (p : Program) (b : List Stmt) (w : World) (os : OsState) : segRunT treeTable p w 11 (some (.ref 6)) 1 524 (S13 w os) (piecesOf (stsE ++ stsF) Mine.env1 (cdE b) ⟨59, 0, 59, 6⟩ [topFrame q0])
   = some (.next, S26 w os, cdE b, ⟨142, 0, 156, 51⟩) := by
  rw [PySem.W.Fast.te10110043849684766642, PySem.W.Fast.te14364793385576792824]
  kernel_rfl
end Mine
end
section
open PySem PySem.W PyProof.Rows
set_option maxRecDepth 100000
namespace Mine
noncomputable def PD (w : World) : Prop := ∀ (p : Program) (b : List Stmt) (os : OsState), segRunT treeTable p w 11 (some (.ref 6)) 1 775 (S12 w os) (piecesOf stsD Mine.env1 (cdE b) ⟨52, 0, 58, 46⟩ [topFrame q0])
   = some (.next, S13 w os, cdE b, ⟨59, 0, 59, 6⟩)
theorem gD_ff (w : World) : PD ((w.withFollow "set-order" false).withFollow "special-get-raises" false) := by
  intro p b os
  rw [PySem.W.Fast.te10110043849684766642, PySem.W.Fast.te14364793385576792824]
  kernel_rfl
theorem gD_ft (w : World) : PD ((w.withFollow "set-order" false).withFollow "special-get-raises" true) := by
  intro p b os
  rw [PySem.W.Fast.te10110043849684766642, PySem.W.Fast.te14364793385576792824]
  kernel_rfl
theorem gD_tf (w : World) : PD ((w.withFollow "set-order" true).withFollow "special-get-raises" false) := by
  intro p b os
  rw [PySem.W.Fast.te10110043849684766642, PySem.W.Fast.te14364793385576792824]
  kernel_rfl
theorem gD_tt (w : World) : PD ((w.withFollow "set-order" true).withFollow "special-get-raises" true) := by
  intro p b os
  rw [PySem.W.Fast.te10110043849684766642, PySem.W.Fast.te14364793385576792824]
  kernel_rfl
end Mine
end
section
open PySem PySem.W PyProof.Rows
set_option maxRecDepth 100000
namespace Mine
theorem gD (p : Program) (b : List Stmt) (w : World) (os : OsState) : segRunT treeTable p w 11 (some (.ref 6)) 1 775 (S12 w os) (piecesOf stsD Mine.env1 (cdE b) ⟨52, 0, 58, 46⟩ [topFrame q0])
   = some (.next, S13 w os, cdE b, ⟨59, 0, 59, 6⟩) :=
  (byRow2 "special-get-raises" (P := PD) (byRow2 "set-order" (P := fun w => PD (w.withFollow "special-get-raises" false)) gD_ff gD_tf) (byRow2 "set-order" (P := fun w => PD (w.withFollow "special-get-raises" true)) gD_ft gD_tt) w) p b os

/-- the keys rise -/
noncomputable def rises : List Int → Bool
  | a :: b :: l => decide (a < b) && rises (b :: l)
  | _ => true
theorem rises_all : ∀ (l : List Int) (a : Int), rises (a :: l) = true → ∀ x ∈ l, a < x
  | [], _, _, _, h => nomatch h
  | b :: l, a, h, x, hx => by
    simp only [rises, Bool.and_eq_true, decide_eq_true_eq] at h
    rcases List.mem_cons.mp hx with rfl | hx
    · exact h.1
    · exact Int.lt_trans h.1 (rises_all l b h.2 x hx)
theorem rises_nodup : ∀ l : List Int, rises l = true → l.Nodup
  | [], _ => List.nodup_nil
  | a :: l, h => by
    refine List.nodup_cons.mpr ⟨fun ha => Int.lt_irrefl a (rises_all l a h a ha), ?_⟩
    cases l with
    | nil => exact List.nodup_nil
    | cons b l =>
      simp only [rises, Bool.and_eq_true] at h
      exact rises_nodup (b :: l) h.2

noncomputable def b3all : List Row := (b3first ++ b3mid.flatten) ++ b3last
theorem b3_nodup : (b3all.map hk).Nodup := rises_nodup _ (by decide +kernel)
theorem b3_len : b3all.length = 650 := by decide +kernel
theorem b3_first : b3first.length = 17 := by decide +kernel
theorem b3_last : b3last.length = 4 := by decide +kernel
theorem b3_mid : ∀ l ∈ b3mid, l.length = 17 := by decide +kernel
theorem b3_midlen : b3mid.length = 37 := by decide +kernel
theorem b3_stmt : stAt 9 = .Assign [.Name "b3_exceptions" ⟨46, 0, 46, 13⟩] (.Dict (b3all.map keyE) (b3all.map valE) ⟨46, 16, 46, 8704⟩) ⟨46, 0, 46, 8704⟩ := by kernel_rfl

theorem items_eq (env : Env) (dp : Pos) : ∀ L : List Row, ((evalEachOpt (L.map keyE) env).zip ((evalEach (L.map valE) env).map fun v => do let x ← v; standAt dp; pure x)) = L.map (itemOf3 env dp)
  | [] => rfl
  | r :: L => by
    show (_ :: ((evalEachOpt (L.map keyE) env).zip ((evalEach (L.map valE) env).map fun v => do let x ← v; standAt dp; pure x))) = _
    rw [items_eq env dp L]
    rfl
noncomputable abbrev TC0 (p : Program) (w : World) (b : List Stmt) : TC := ⟨p, w, 11, some (.ref 6), b, Mine.env1, q0⟩
noncomputable abbrev b3objs : List Obj := D (ents (b3first ++ b3mid.flatten) 290 ++ entsS b3last (290 + 51 + 51 * b3mid.length)).toArray (17 + 17 * b3mid.length + b3last.length) :: (subs b3mid (290 + 51) ++ [D (entsS b3last (290 + 51 + 51 * b3mid.length)).toArray b3last.length])
theorem b3_tail (p : Program) (w : World) (b : List Stmt) (pos : Pos) (t : Nat) : At (TC0 p w b) (do
      let y ← swappedStores [.Name "b3_exceptions" ⟨46, 0, 46, 13⟩] (.Dict (b3all.map keyE) (b3all.map valE) ⟨46, 16, 46, 8704⟩) Mine.env1
      assignStores Mine.env1 (.ref 62) y ((assignEach [.Name "b3_exceptions" ⟨46, 0, 46, 13⟩] Mine.env1).map (·.2))) 7 (HP (absHeap (Mine.z9_tree w.params) 62 {}) b3objs) 2240 pos .next
      (absHeap (s10_tree w.params) 101 {}) 2241 ⟨46, 0, 46, 13⟩ := by
  intro K H gd lv g d os N r hN
  rw [Nat.add_comm]
  have e : (TC0 p w b).run (N + 7) ⟨HP (absHeap (Mine.z9_tree w.params) 62 {}) b3objs, g, d, 2240, os⟩ ((TC0 p w b).thr (Sem.wrap K H gd lv (do
      let y ← swappedStores [.Name "b3_exceptions" ⟨46, 0, 46, 13⟩] (.Dict (b3all.map keyE) (b3all.map valE) ⟨46, 16, 46, 8704⟩) Mine.env1
      assignStores Mine.env1 (.ref 62) y ((assignEach [.Name "b3_exceptions" ⟨46, 0, 46, 13⟩] Mine.env1).map (·.2)))) pos) =
    (TC0 p w b).run N ⟨absHeap (s10_tree w.params) 101 {}, g, d, 2241, os⟩ ((TC0 p w b).thr (K .next) ⟨46, 0, 46, 13⟩) := by kernel_rfl
  rw [e]
  exact hN
end Mine
end
section
open PySem PySem.W PyProof.Rows
set_option maxRecDepth 100000
namespace Mine
theorem exec_dict {C : TC} {ks : List (Option Expr)} {vs : List Expr} {x : Str} {px dp sp pos pos2 : Pos} {env : Env} {k k2 : Nat} {h h1 h2 : Heap} {t t1 t2 : Nat} {a : Value}
    (hd : At C (dictDisplay ((evalEachOpt ks env).zip ((evalEach vs env).map fun v => do let x ← v; standAt dp; pure x))) k h t dp a h1 t1 dp)
    (ht : At C (do
      let y ← swappedStores [.Name x px] (.Dict ks vs dp) env
      assignStores env a y ((assignEach [.Name x px] env).map (·.2))) k2 h1 t1 dp .next h2 t2 pos2) : At C (exec (.Assign [.Name x px] (.Dict ks vs dp) sp) env) (1 + (0 + ((1 + k) + k2))) h t pos .next h2 t2 pos2 := by

  refine At.bind At.standAt ?_
  refine At.bind (a := false) At.pure ?_
  refine At.ite_neg Bool.false_ne_true ?_
  refine At.bind (a := a) ?_ ht

  exact At.bind At.standAt hd
theorem b3_disp (p : Program) (w : World) (b : List Stmt) : At (TC0 p w b) (dictDisplay ((evalEachOpt (b3all.map keyE) Mine.env1).zip ((evalEach (b3all.map valE) Mine.env1).map fun v => do let x ← v; standAt ⟨46, 16, 46, 8704⟩; pure x))) 12515 (absHeap (Mine.z9_tree w.params) 62 {}) 290 ⟨46, 16, 46, 8704⟩ (.ref 62)
    (HP (absHeap (Mine.z9_tree w.params) 62 {}) b3objs) 2240 ⟨46, 16, 46, 8704⟩ := by
  have hsz : (absHeap (Mine.z9_tree w.params) 62 {}).objs.size = 62 := absHeap_size _ _ _
  have hd := display_at (C := TC0 p w b) (absHeap (Mine.z9_tree w.params) 62 {}) Mine.env1 ⟨46, 16, 46, 8704⟩ (by rw [hsz]; exact (show (11 : Nat) ≤ 62 by decide)) (by rw [hsz]; exact (show sysModules < 62 by decide)) b3first b3mid b3last 290
    b3_first b3_mid (by rw [b3_last]; decide) (by rw [b3_last]; decide) b3_nodup (by show b3all.length ≤ 99999; rw [b3_len]; decide)
  rw [hsz] at hd
  rw [items_eq]
  refine At.cast hd ?_ ?_ rfl
  · rw [b3_midlen, b3_last]
  · rw [b3_midlen, b3_last]
theorem b3_exec (p : Program) (w : World) (b : List Stmt) (pos : Pos) : At (TC0 p w b) (exec (stAt 9) Mine.env1) 12524 (absHeap (Mine.z9_tree w.params) 62 {}) 290 pos .next (absHeap (s10_tree w.params) 101 {}) 2241 ⟨46, 0, 46, 13⟩ := by
  rw [b3_stmt]
  exact exec_dict (b3_disp p w b) (b3_tail p w b ⟨46, 16, 46, 8704⟩ 0)
theorem b3_run (p : Program) (b : List Stmt) (w : World) (os : OsState) (rest : List Stmt) (N : Nat) (r : Shared)
    (k : topRun treeTable p w 11 (some (.ref 6)) N (S10 w os).abs (restOf rest Mine.env1 (cdE b) ⟨46, 0, 46, 13⟩ [topFrame q0]) = some r) :
    topRun treeTable p w 11 (some (.ref 6)) (12524 + N) (S9 w os).abs (restOf (stAt 9 :: rest) Mine.env1 (cdE b) ⟨45, 0, 45, 8⟩ [topFrame q0]) = some r := by
  unfold restOf
  rw [execs_cons_wrap]
  exact b3_exec p w b ⟨45, 0, 45, 8⟩ _ _ _ _ #[] {} os N r k
end Mine
end
section
open PySem PySem.W PyProof.Rows
set_option maxRecDepth 100000
namespace Mine
noncomputable abbrev pwX : Program := PySem.Challenge.pw_wk0036_01
theorem body_is : behindTheImports pwX = stsA ++ (stAt 9 :: (stsC ++ (stsD ++ ((stsE ++ stsF) ++ [])))) := by kernel_rfl
theorem pre_run (w : World) (os : OsState) : topGo treeTable pwX w 11 (some (.ref 6)) 12 ⟨boot_heap w.params, #[], boot_drawn, boot_toks, os⟩ (topStub pwX) =
    some ((S0 w os).abs, ⟨denote treeTable (cdE (behindTheImports pwX)), cdE (behindTheImports pwX), q0, [topFrame q0]⟩) := by
  kernel_rfl
theorem block_run (w : World) (os : OsState) : segRun treeTable pwX w 11 (some (.ref 6)) 1 1 (S0 w os).abs (blockOf (behindTheImports pwX) Mine.env1 (cdE (behindTheImports pwX)) q0 [topFrame q0]) =
    some (.next, (S0 w os).abs, cdE (behindTheImports pwX), q0) := by
  kernel_rfl
theorem fin_run (p : Program) (w : World) (os : OsState) (b : List Stmt) : topRun treeTable p w 11 (some (.ref 6)) 2 (S26 w os).abs ⟨doneF .next, cdE b, ⟨142, 0, 156, 51⟩, [topFrame q0]⟩ = some (S26 w os).abs := by
  kernel_rfl
end Mine
end
section
open PySem PySem.W PyProof.Rows
set_option maxRecDepth 100000
namespace Mine
theorem run_all (w : World) (os : OsState) : topRun treeTable pwX w 11 (some (.ref 6)) (12 + (1 + (675 + (12524 + (61 + (775 + (524 + 2))))))) ⟨boot_heap w.params, #[], boot_drawn, boot_toks, os⟩ (topStub pwX) = some (S26 w os).abs := by
  have k0 := fin_run pwX w os (behindTheImports pwX)
  have k1 := piece_app (segRun_of (gF pwX (behindTheImports pwX) w os)) (piece_nil k0)
  have k2 := piece_app (segRun_of (gD pwX (behindTheImports pwX) w os)) k1
  have k3 := piece_app (segRun_of (gC pwX (behindTheImports pwX) w os)) k2
  have k4 := b3_run pwX (behindTheImports pwX) w os _ _ _ k3
  have k5 := nine_run pwX (behindTheImports pwX) w os _ _ _ k4
  rw [← body_is] at k5
  have k6 := piece_block (block_run w os) k5
  exact go_top (pre_run w os) k6
theorem open_all : ∀ w : World, (fencedOpening treeTable pwX w 30000).map (fun s => (s.heap, s.gens, s.drawn, s.toks)) = some (boot_heap w.params, Array.mk [], boot_drawn, boot_toks) :=
  boot_open (by kernel_rfl) (by decide) (fun s => by kernel_rfl)
theorem size_all : ∀ w : World, ((boot_heap w.params).isNs mainGlobals && (Array.mk [] : Array GenState).size == 0, (boot_heap w.params).objs.size, (boot_heap w.params).nsMap mainGlobals "__annotations__") = (true, 11, some (.ref 6)) := fun w => by
  kernel_rfl
end Mine
end
section
open PySem PySem.W PyProof.Rows
set_option maxRecDepth 100000
namespace Mine
noncomputable def pa2 : Arguments := by
  refine' (_ : (f : Arguments) → f = parAt 2 → Arguments) _ _
  · exact fun f _ => f
  rotate_left
  · conv => rhs; whnf
noncomputable def bd2 : List Stmt := by
  refine' (_ : (f : List Stmt) → f = bodyAt 2 → List Stmt) _ _
  · exact fun f _ => f
  rotate_left
  · conv => rhs; whnf
noncomputable def sc2 : Scope := by
  refine' (_ : (f : Scope) → f = scoAt 2 → Scope) _ _
  · exact fun f _ => f
  rotate_left
  · conv => rhs; whnf
noncomputable def pa3 : Arguments := by
  refine' (_ : (f : Arguments) → f = parAt 3 → Arguments) _ _
  · exact fun f _ => f
  rotate_left
  · conv => rhs; whnf
noncomputable def bd3 : List Stmt := by
  refine' (_ : (f : List Stmt) → f = bodyAt 3 → List Stmt) _ _
  · exact fun f _ => f
  rotate_left
  · conv => rhs; whnf
noncomputable def sc3 : Scope := by
  refine' (_ : (f : Scope) → f = scoAt 3 → Scope) _ _
  · exact fun f _ => f
  rotate_left
  · conv => rhs; whnf
noncomputable def pa7 : Arguments := by
  refine' (_ : (f : Arguments) → f = parAt 7 → Arguments) _ _
  · exact fun f _ => f
  rotate_left
  · conv => rhs; whnf
noncomputable def bd7 : List Stmt := by
  refine' (_ : (f : List Stmt) → f = bodyAt 7 → List Stmt) _ _
  · exact fun f _ => f
  rotate_left
  · conv => rhs; whnf
noncomputable def sc7 : Scope := by
  refine' (_ : (f : Scope) → f = scoAt 7 → Scope) _ _
  · exact fun f _ => f
  rotate_left
  · conv => rhs; whnf
noncomputable def pa10 : Arguments := by
  refine' (_ : (f : Arguments) → f = parAt 10 → Arguments) _ _
  · exact fun f _ => f
  rotate_left
  · conv => rhs; whnf
noncomputable def bd10 : List Stmt := by
  refine' (_ : (f : List Stmt) → f = bodyAt 10 → List Stmt) _ _
  · exact fun f _ => f
  rotate_left
  · conv => rhs; whnf
noncomputable def sc10 : Scope := by
  refine' (_ : (f : Scope) → f = scoAt 10 → Scope) _ _
  · exact fun f _ => f
  rotate_left
  · conv => rhs; whnf
noncomputable def pa11 : Arguments := by
  refine' (_ : (f : Arguments) → f = parAt 11 → Arguments) _ _
  · exact fun f _ => f
  rotate_left
  · conv => rhs; whnf
noncomputable def bd11 : List Stmt := by
  refine' (_ : (f : List Stmt) → f = bodyAt 11 → List Stmt) _ _
  · exact fun f _ => f
  rotate_left
  · conv => rhs; whnf
noncomputable def sc11 : Scope := by
  refine' (_ : (f : Scope) → f = scoAt 11 → Scope) _ _
  · exact fun f _ => f
  rotate_left
  · conv => rhs; whnf
noncomputable def pa13 : Arguments := by
  refine' (_ : (f : Arguments) → f = parAt 13 → Arguments) _ _
  · exact fun f _ => f
  rotate_left
  · conv => rhs; whnf
noncomputable def bd13 : List Stmt := by
  refine' (_ : (f : List Stmt) → f = bodyAt 13 → List Stmt) _ _
  · exact fun f _ => f
  rotate_left
  · conv => rhs; whnf
noncomputable def sc13 : Scope := by
  refine' (_ : (f : Scope) → f = scoAt 13 → Scope) _ _
  · exact fun f _ => f
  rotate_left
  · conv => rhs; whnf
noncomputable def pa15 : Arguments := by
  refine' (_ : (f : Arguments) → f = parAt 15 → Arguments) _ _
  · exact fun f _ => f
  rotate_left
  · conv => rhs; whnf
noncomputable def bd15 : List Stmt := by
  refine' (_ : (f : List Stmt) → f = bodyAt 15 → List Stmt) _ _
  · exact fun f _ => f
  rotate_left
  · conv => rhs; whnf
noncomputable def sc15 : Scope := by
  refine' (_ : (f : Scope) → f = scoAt 15 → Scope) _ _
  · exact fun f _ => f
  rotate_left
  · conv => rhs; whnf
noncomputable def pa16 : Arguments := by
  refine' (_ : (f : Arguments) → f = parAt 16 → Arguments) _ _
  · exact fun f _ => f
  rotate_left
  · conv => rhs; whnf
noncomputable def bd16 : List Stmt := by
  refine' (_ : (f : List Stmt) → f = bodyAt 16 → List Stmt) _ _
  · exact fun f _ => f
  rotate_left
  · conv => rhs; whnf
noncomputable def sc16 : Scope := by
  refine' (_ : (f : Scope) → f = scoAt 16 → Scope) _ _
  · exact fun f _ => f
  rotate_left
  · conv => rhs; whnf
noncomputable def pa17 : Arguments := by
  refine' (_ : (f : Arguments) → f = parAt 17 → Arguments) _ _
  · exact fun f _ => f
  rotate_left
  · conv => rhs; whnf
noncomputable def bd17 : List Stmt := by
  refine' (_ : (f : List Stmt) → f = bodyAt 17 → List Stmt) _ _
  · exact fun f _ => f
  rotate_left
  · conv => rhs; whnf
noncomputable def sc17 : Scope := by
  refine' (_ : (f : Scope) → f = scoAt 17 → Scope) _ _
  · exact fun f _ => f
  rotate_left
  · conv => rhs; whnf
noncomputable def pa18 : Arguments := by
  refine' (_ : (f : Arguments) → f = parAt 18 → Arguments) _ _
  · exact fun f _ => f
  rotate_left
  · conv => rhs; whnf
noncomputable def bd18 : List Stmt := by
  refine' (_ : (f : List Stmt) → f = bodyAt 18 → List Stmt) _ _
  · exact fun f _ => f
  rotate_left
  · conv => rhs; whnf
noncomputable def sc18 : Scope := by
  refine' (_ : (f : Scope) → f = scoAt 18 → Scope) _ _
  · exact fun f _ => f
  rotate_left
  · conv => rhs; whnf
noncomputable def pa19 : Arguments := by
  refine' (_ : (f : Arguments) → f = parAt 19 → Arguments) _ _
  · exact fun f _ => f
  rotate_left
  · conv => rhs; whnf
noncomputable def bd19 : List Stmt := by
  refine' (_ : (f : List Stmt) → f = bodyAt 19 → List Stmt) _ _
  · exact fun f _ => f
  rotate_left
  · conv => rhs; whnf
noncomputable def sc19 : Scope := by
  refine' (_ : (f : Scope) → f = scoAt 19 → Scope) _ _
  · exact fun f _ => f
  rotate_left
  · conv => rhs; whnf
noncomputable def pa20 : Arguments := by
  refine' (_ : (f : Arguments) → f = parAt 20 → Arguments) _ _
  · exact fun f _ => f
  rotate_left
  · conv => rhs; whnf
noncomputable def bd20 : List Stmt := by
  refine' (_ : (f : List Stmt) → f = bodyAt 20 → List Stmt) _ _
  · exact fun f _ => f
  rotate_left
  · conv => rhs; whnf
noncomputable def sc20 : Scope := by
  refine' (_ : (f : Scope) → f = scoAt 20 → Scope) _ _
  · exact fun f _ => f
  rotate_left
  · conv => rhs; whnf
noncomputable def pa21 : Arguments := by
  refine' (_ : (f : Arguments) → f = parAt 21 → Arguments) _ _
  · exact fun f _ => f
  rotate_left
  · conv => rhs; whnf
noncomputable def bd21 : List Stmt := by
  refine' (_ : (f : List Stmt) → f = bodyAt 21 → List Stmt) _ _
  · exact fun f _ => f
  rotate_left
  · conv => rhs; whnf
noncomputable def sc21 : Scope := by
  refine' (_ : (f : Scope) → f = scoAt 21 → Scope) _ _
  · exact fun f _ => f
  rotate_left
  · conv => rhs; whnf
noncomputable def pa22 : Arguments := by
  refine' (_ : (f : Arguments) → f = parAt 22 → Arguments) _ _
  · exact fun f _ => f
  rotate_left
  · conv => rhs; whnf
noncomputable def bd22 : List Stmt := by
  refine' (_ : (f : List Stmt) → f = bodyAt 22 → List Stmt) _ _
  · exact fun f _ => f
  rotate_left
  · conv => rhs; whnf
noncomputable def sc22 : Scope := by
  refine' (_ : (f : Scope) → f = scoAt 22 → Scope) _ _
  · exact fun f _ => f
  rotate_left
  · conv => rhs; whnf
noncomputable def pa23 : Arguments := by
  refine' (_ : (f : Arguments) → f = parAt 23 → Arguments) _ _
  · exact fun f _ => f
  rotate_left
  · conv => rhs; whnf
noncomputable def bd23 : List Stmt := by
  refine' (_ : (f : List Stmt) → f = bodyAt 23 → List Stmt) _ _
  · exact fun f _ => f
  rotate_left
  · conv => rhs; whnf
noncomputable def sc23 : Scope := by
  refine' (_ : (f : Scope) → f = scoAt 23 → Scope) _ _
  · exact fun f _ => f
  rotate_left
  · conv => rhs; whnf
noncomputable def pa24 : Arguments := by
  refine' (_ : (f : Arguments) → f = parAt 24 → Arguments) _ _
  · exact fun f _ => f
  rotate_left
  · conv => rhs; whnf
noncomputable def bd24 : List Stmt := by
  refine' (_ : (f : List Stmt) → f = bodyAt 24 → List Stmt) _ _
  · exact fun f _ => f
  rotate_left
  · conv => rhs; whnf
noncomputable def sc24 : Scope := by
  refine' (_ : (f : Scope) → f = scoAt 24 → Scope) _ _
  · exact fun f _ => f
  rotate_left
  · conv => rhs; whnf
noncomputable def pa25 : Arguments := by
  refine' (_ : (f : Arguments) → f = parAt 25 → Arguments) _ _
  · exact fun f _ => f
  rotate_left
  · conv => rhs; whnf
noncomputable def bd25 : List Stmt := by
  refine' (_ : (f : List Stmt) → f = bodyAt 25 → List Stmt) _ _
  · exact fun f _ => f
  rotate_left
  · conv => rhs; whnf
noncomputable def sc25 : Scope := by
  refine' (_ : (f : Scope) → f = scoAt 25 → Scope) _ _
  · exact fun f _ => f
  rotate_left
  · conv => rhs; whnf
noncomputable def fd1 : Stmt := by
  refine' (_ : (f : Stmt) → f = stAt 1 → Stmt) _ _
  · exact fun f _ => f
  rotate_left
  · conv => rhs; whnf
noncomputable def fd2 : Stmt := by
  refine' (_ : (f : Stmt) → f = stAt 2 → Stmt) _ _
  · exact fun f _ => f
  rotate_left
  · conv => rhs; whnf
noncomputable def fd3 : Stmt := by
  refine' (_ : (f : Stmt) → f = stAt 3 → Stmt) _ _
  · exact fun f _ => f
  rotate_left
  · conv => rhs; whnf
noncomputable def fd5 : Stmt := by
  refine' (_ : (f : Stmt) → f = stAt 5 → Stmt) _ _
  · exact fun f _ => f
  rotate_left
  · conv => rhs; whnf
noncomputable def fd6 : Stmt := by
  refine' (_ : (f : Stmt) → f = stAt 6 → Stmt) _ _
  · exact fun f _ => f
  rotate_left
  · conv => rhs; whnf
noncomputable def fd7 : Stmt := by
  refine' (_ : (f : Stmt) → f = stAt 7 → Stmt) _ _
  · exact fun f _ => f
  rotate_left
  · conv => rhs; whnf
noncomputable def fd10 : Stmt := by
  refine' (_ : (f : Stmt) → f = stAt 10 → Stmt) _ _
  · exact fun f _ => f
  rotate_left
  · conv => rhs; whnf
noncomputable def fd11 : Stmt := by
  refine' (_ : (f : Stmt) → f = stAt 11 → Stmt) _ _
  · exact fun f _ => f
  rotate_left
  · conv => rhs; whnf
noncomputable def fd12 : Stmt := by
  refine' (_ : (f : Stmt) → f = stAt 12 → Stmt) _ _
  · exact fun f _ => f
  rotate_left
  · conv => rhs; whnf
noncomputable def fd13 : Stmt := by
  refine' (_ : (f : Stmt) → f = stAt 13 → Stmt) _ _
  · exact fun f _ => f
  rotate_left
  · conv => rhs; whnf
noncomputable def fd15 : Stmt := by
  refine' (_ : (f : Stmt) → f = stAt 15 → Stmt) _ _
  · exact fun f _ => f
  rotate_left
  · conv => rhs; whnf
noncomputable def fd16 : Stmt := by
  refine' (_ : (f : Stmt) → f = stAt 16 → Stmt) _ _
  · exact fun f _ => f
  rotate_left
  · conv => rhs; whnf
noncomputable def fd17 : Stmt := by
  refine' (_ : (f : Stmt) → f = stAt 17 → Stmt) _ _
  · exact fun f _ => f
  rotate_left
  · conv => rhs; whnf
noncomputable def fd18 : Stmt := by
  refine' (_ : (f : Stmt) → f = stAt 18 → Stmt) _ _
  · exact fun f _ => f
  rotate_left
  · conv => rhs; whnf
noncomputable def fd19 : Stmt := by
  refine' (_ : (f : Stmt) → f = stAt 19 → Stmt) _ _
  · exact fun f _ => f
  rotate_left
  · conv => rhs; whnf
noncomputable def fd20 : Stmt := by
  refine' (_ : (f : Stmt) → f = stAt 20 → Stmt) _ _
  · exact fun f _ => f
  rotate_left
  · conv => rhs; whnf
noncomputable def fd21 : Stmt := by
  refine' (_ : (f : Stmt) → f = stAt 21 → Stmt) _ _
  · exact fun f _ => f
  rotate_left
  · conv => rhs; whnf
noncomputable def fd22 : Stmt := by
  refine' (_ : (f : Stmt) → f = stAt 22 → Stmt) _ _
  · exact fun f _ => f
  rotate_left
  · conv => rhs; whnf
noncomputable def fd23 : Stmt := by
  refine' (_ : (f : Stmt) → f = stAt 23 → Stmt) _ _
  · exact fun f _ => f
  rotate_left
  · conv => rhs; whnf
noncomputable def fd24 : Stmt := by
  refine' (_ : (f : Stmt) → f = stAt 24 → Stmt) _ _
  · exact fun f _ => f
  rotate_left
  · conv => rhs; whnf
noncomputable def fd25 : Stmt := by
  refine' (_ : (f : Stmt) → f = stAt 25 → Stmt) _ _
  · exact fun f _ => f
  rotate_left
  · conv => rhs; whnf
noncomputable def vwBody : List Stmt := by
  refine' (_ : (f : List Stmt) → f = [fd1, fd2, fd3, fd5, fd6, fd7, fd10, fd11, fd12, fd13, fd15, fd16, fd17, fd18, fd19, fd20, fd21, fd22, fd23, fd24, fd25] → List Stmt) _ _
  · exact fun f _ => f
  rotate_left
  · dsimp only [fd1, fd2, fd3, fd5, fd6, fd7, fd10, fd11, fd12, fd13, fd15, fd16, fd17, fd18, fd19, fd20, fd21, fd22, fd23, fd24, fd25]; exact rfl
noncomputable def vw : Program := by
  refine' (_ : (f : Program) → f = { PySem.Challenge.pw_wk0036_01 with main := { PySem.Challenge.pw_wk0036_01.main with body := vwBody } } → Program) _ _
  · exact fun f _ => f
  rotate_left
  · dsimp only [vwBody]; exact rfl
noncomputable def K : Params → Frag := by
  refine' (_ : (f : Params → Frag) → f = (fun P => (nat_lit 2, ⟨.none, none, (.dict #[⟨PyData.keyHash P (Str.ofString "type.__subclasses__.Exception.0"), (.str (Str.ofString "type.__subclasses__.Exception.0") 257), (.int 39 0)⟩, ⟨PyData.keyHash P (Str.ofString "type.__subclasses__.Exception.n"), (.str (Str.ofString "type.__subclasses__.Exception.n") 258), (.int 1 0)⟩] 2), #[]⟩) ::
    (nat_lit 3, ⟨(.type "dict"), none, (.dict #[⟨PyData.keyHash P (Str.ofString "__name__"), (.str (Str.ofString "__name__") 165), (.str (Str.ofString "law_wk0036_01") 2305)⟩, ⟨PyData.keyHash P (Str.ofString "__doc__"), (.str (Str.ofString "__doc__") 166), .none⟩, ⟨PyData.keyHash P (Str.ofString "__package__"), (.str (Str.ofString "__package__") 167), .none⟩, ⟨PyData.keyHash P (Str.ofString "__loader__"), (.str (Str.ofString "__loader__") 168), (.builtin "__main__.__loader__#opaque")⟩, ⟨PyData.keyHash P (Str.ofString "__spec__"), (.str (Str.ofString "__spec__") 169), .none⟩, ⟨PyData.keyHash P (Str.ofString "__annotations__"), (.str (Str.ofString "__annotations__") 170), (.ref 6)⟩, ⟨PyData.keyHash P (Str.ofString "__builtins__"), (.str (Str.ofString "__builtins__") 171), (.ref 4)⟩, ⟨PyData.keyHash P (Str.ofString "__file__"), (.str (Str.ofString "__file__") 173), (.str (Str.ofString "/claim/cut.py") 172)⟩, ⟨PyData.keyHash P (Str.ofString "__cached__"), (.str (Str.ofString "__cached__") 174), .none⟩, ⟨PyData.keyHash P (Str.ofString "COMPILER_FLAG_NAMES"), (.str (Str.ofString "COMPILER_FLAG_NAMES") 219), (.ref 15)⟩, ⟨PyData.keyHash P (Str.ofString "pretty_flags"), (.str (Str.ofString "pretty_flags") 229), (.ref 22)⟩, ⟨PyData.keyHash P (Str.ofString "_parse_varint"), (.str (Str.ofString "_parse_varint") 238), (.ref 29)⟩, ⟨PyData.keyHash P (Str.ofString "Error"), (.str (Str.ofString "Error") 260), (.ref 39)⟩, ⟨PyData.keyHash P (Str.ofString "error_reply"), (.str (Str.ofString "error_reply") 276), (.ref 52)⟩, ⟨PyData.keyHash P (Str.ofString "parse257"), (.str (Str.ofString "parse257") 287), (.ref 61)⟩, ⟨PyData.keyHash P (Str.ofString "b3_exceptions"), (.str (Str.ofString "b3_exceptions") 2240), (.ref 62)⟩, ⟨PyData.keyHash P (Str.ofString "map_table_b3"), (.str (Str.ofString "map_table_b3") 2248), (.ref 107)⟩, ⟨PyData.keyHash P (Str.ofString "in_table_c4"), (.str (Str.ofString "in_table_c4") 2256), (.ref 114)⟩, ⟨PyData.keyHash P (Str.ofString "c8_set"), (.str (Str.ofString "c8_set") 2297), (.ref 128)⟩, ⟨PyData.keyHash P (Str.ofString "in_table_c8"), (.str (Str.ofString "in_table_c8") 2304), (.ref 138)⟩, ⟨PyData.keyHash P (Str.ofString "_law_drawn"), (.str (Str.ofString "_law_drawn") 2315), (.ref 145)⟩, ⟨PyData.keyHash P (Str.ofString "_law_turn"), (.str (Str.ofString "_law_turn") 2323), (.ref 152)⟩, ⟨PyData.keyHash P (Str.ofString "_law_good"), (.str (Str.ofString "_law_good") 2333), (.ref 159)⟩, ⟨PyData.keyHash P (Str.ofString "_law_codes"), (.str (Str.ofString "_law_codes") 2341), (.ref 166)⟩, ⟨PyData.keyHash P (Str.ofString "_law_heard"), (.str (Str.ofString "_law_heard") 2352), (.ref 173)⟩, ⟨PyData.keyHash P (Str.ofString "_law_played"), (.str (Str.ofString "_law_played") 2358), (.ref 178)⟩, ⟨PyData.keyHash P (Str.ofString "_law_crossed"), (.str (Str.ofString "_law_crossed") 2364), (.ref 183)⟩, ⟨PyData.keyHash P (Str.ofString "_law_worded"), (.str (Str.ofString "_law_worded") 2370), (.ref 188)⟩, ⟨PyData.keyHash P (Str.ofString "_law_ahead"), (.str (Str.ofString "_law_ahead") 2381), (.ref 195)⟩, ⟨PyData.keyHash P (Str.ofString "_law_content"), (.str (Str.ofString "_law_content") 2387), (.ref 200)⟩, ⟨PyData.keyHash P (Str.ofString "law"), (.str (Str.ofString "law") 2393), (.ref 205)⟩] 31), #[]⟩) ::
    (nat_lit 15, ⟨(.type "dict"), none, (.dict #[⟨1, (.int 1 189), (.str (Str.ofString "OPTIMIZED") 190)⟩, ⟨2, (.int 2 191), (.str (Str.ofString "NEWLOCALS") 192)⟩, ⟨4, (.int 4 193), (.str (Str.ofString "VARARGS") 194)⟩, ⟨8, (.int 8 195), (.str (Str.ofString "VARKEYWORDS") 196)⟩, ⟨16, (.int 16 197), (.str (Str.ofString "NESTED") 198)⟩, ⟨32, (.int 32 199), (.str (Str.ofString "GENERATOR") 200)⟩, ⟨64, (.int 64 201), (.str (Str.ofString "NOFREE") 202)⟩, ⟨128, (.int 128 203), (.str (Str.ofString "COROUTINE") 204)⟩, ⟨256, (.int 256 205), (.str (Str.ofString "ITERABLE_COROUTINE") 206)⟩, ⟨512, (.int 512 207), (.str (Str.ofString "ASYNC_GENERATOR") 208)⟩] 10), #[]⟩) ::
    (nat_lit 16, ⟨(.type "tuple"), none, (.seq #[] 0), #[]⟩) ::
    (nat_lit 18, ⟨(.type "tuple"), none, (.seq #[(.str (Str.ofString "flags") 223), (.str (Str.ofString "names") 224), (.str (Str.ofString "i") 225), (.str (Str.ofString "flag") 226)] 0), #[]⟩) ::
    (nat_lit 19, ⟨(.type "tuple"), none, (.seq #[] 0), #[]⟩) ::
    (nat_lit 21, ⟨(.type "code"), none, (.fields #[(.str (Str.ofString "pretty_flags") 220), (.str (Str.ofString "pretty_flags") 221), (.str (Str.ofString "/claim/cut.py") 222), (.int 3 0), (.int 1 0), (.int 0 0), (.int 0 0), (.int 3 0), (.ref 16), (.bool true), (.int 181 0), (.ref 17), .none, (.ref 18), (.ref 19), (.ref 20), (.int 227 0), (.int 3 0), (.str (Str.ofString "/claim/cut.py") 228)]), #[]⟩) ::
    (nat_lit 22, ⟨(.type "function"), none, (.func ⟨(Str.ofString "pretty_flags"), (Str.ofString "pretty_flags"), pa2, .stmts bd2, sc2, 3, [], .none, .none, .none, (.str (Str.ofString "cpy313.dis") 187), none, (.ref 21), .none, 0⟩), #[]⟩) ::
    (nat_lit 23, ⟨(.type "tuple"), none, (.seq #[] 0), #[]⟩) ::
    (nat_lit 25, ⟨(.type "tuple"), none, (.seq #[(.str (Str.ofString "iterator") 233), (.str (Str.ofString "b") 234), (.str (Str.ofString "val") 235)] 0), #[]⟩) ::
    (nat_lit 26, ⟨(.type "tuple"), none, (.seq #[] 0), #[]⟩) ::
    (nat_lit 28, ⟨(.type "code"), none, (.fields #[(.str (Str.ofString "_parse_varint") 230), (.str (Str.ofString "_parse_varint") 231), (.str (Str.ofString "/claim/cut.py") 232), (.int 15 0), (.int 1 0), (.int 0 0), (.int 0 0), (.int 3 0), (.ref 23), (.bool true), (.int 181 0), (.ref 24), .none, (.ref 25), (.ref 26), (.ref 27), (.int 236 0), (.int 15 0), (.str (Str.ofString "/claim/cut.py") 237)]), #[]⟩) ::
    (nat_lit 29, ⟨(.type "function"), none, (.func ⟨(Str.ofString "_parse_varint"), (Str.ofString "_parse_varint"), pa3, .stmts bd3, sc3, 3, [], .none, .none, .none, (.str (Str.ofString "cpy313.dis") 187), none, (.ref 28), .none, 0⟩), #[]⟩) ::
    (nat_lit 30, ⟨(.type "tuple"), none, (.seq #[(.type "Exception")] 0), #[]⟩) ::
    (nat_lit 37, ⟨(.type "tuple"), none, (.seq #[] 0), #[]⟩) ::
    (nat_lit 38, ⟨(.type "dict"), none, (.dict #[⟨PyData.keyHash P (Str.ofString "__module__"), (.str (Str.ofString "__module__") 248), (.str (Str.ofString "cpy313.ftplib") 239)⟩, ⟨PyData.keyHash P (Str.ofString "__firstlineno__"), (.str (Str.ofString "__firstlineno__") 252), (.int 24 251)⟩, ⟨PyData.keyHash P (Str.ofString "__static_attributes__"), (.str (Str.ofString "__static_attributes__") 253), (.ref 37)⟩, ⟨PyData.keyHash P (Str.ofString "__weakref__"), (.str (Str.ofString "__weakref__") 255), (.ref 40)⟩, ⟨PyData.keyHash P (Str.ofString "__doc__"), (.str (Str.ofString "__doc__") 256), .none⟩] 3), #[]⟩) ::
    (nat_lit 39, ⟨(.type "type"), none, (.cls { name := (Str.ofString "Error"), bases := [(.type "Exception")], mro := [(.ref 39), (.type "Exception"), (.type "BaseException"), (.type "object")], ns := 38, qualname := (Str.ofString "Error"), hasDict := true, slotNames := [], subclasses := [(.ref 52)], abstract := false, collection := none, hasDel := false }), #[some (.ref 30), none, some (.str (Str.ofString "Error") 241), some (.str (Str.ofString "Error") 249), some (.builtin "Exception.__new__"), some (.bool true)]⟩) ::
    (nat_lit 40, ⟨(.type "getset_descriptor"), none, (.fields #[(.str (Str.ofString "__weakref__") 254), (.ref 39), (.builtin "ExceptionGroup.__weakref__"), .none]), #[]⟩) ::
    (nat_lit 43, ⟨(.type "tuple"), none, (.seq #[(.ref 39)] 0), #[]⟩) ::
    (nat_lit 50, ⟨(.type "tuple"), none, (.seq #[] 0), #[]⟩) ::
    (nat_lit 51, ⟨(.type "dict"), none, (.dict #[⟨PyData.keyHash P (Str.ofString "__module__"), (.str (Str.ofString "__module__") 268), (.str (Str.ofString "cpy313.ftplib") 239)⟩, ⟨PyData.keyHash P (Str.ofString "__firstlineno__"), (.str (Str.ofString "__firstlineno__") 272), (.int 26 271)⟩, ⟨PyData.keyHash P (Str.ofString "__static_attributes__"), (.str (Str.ofString "__static_attributes__") 273), (.ref 50)⟩, ⟨PyData.keyHash P (Str.ofString "__doc__"), (.str (Str.ofString "__doc__") 274), .none⟩] 2), #[]⟩) ::
    (nat_lit 52, ⟨(.type "type"), none, (.cls { name := (Str.ofString "error_reply"), bases := [(.ref 39)], mro := [(.ref 52), (.ref 39), (.type "Exception"), (.type "BaseException"), (.type "object")], ns := 51, qualname := (Str.ofString "error_reply"), hasDict := true, slotNames := [], subclasses := [], abstract := false, collection := none, hasDel := false }), #[some (.ref 43), none, some (.str (Str.ofString "error_reply") 261), some (.str (Str.ofString "error_reply") 269), some (.builtin "Exception.__new__"), some (.bool true)]⟩) ::
    (nat_lit 55, ⟨(.type "tuple"), none, (.seq #[] 0), #[]⟩) ::
    (nat_lit 57, ⟨(.type "tuple"), none, (.seq #[(.str (Str.ofString "resp") 280), (.str (Str.ofString "dirname") 281), (.str (Str.ofString "i") 282), (.str (Str.ofString "n") 283), (.str (Str.ofString "c") 284)] 0), #[]⟩) ::
    (nat_lit 58, ⟨(.type "tuple"), none, (.seq #[] 0), #[]⟩) ::
    (nat_lit 60, ⟨(.type "code"), none, (.fields #[(.str (Str.ofString "parse257") 277), (.str (Str.ofString "parse257") 278), (.str (Str.ofString "/claim/cut.py") 279), (.int 28 0), (.int 1 0), (.int 0 0), (.int 0 0), (.int 3 0), (.ref 55), (.bool true), (.int 181 0), (.ref 56), .none, (.ref 57), (.ref 58), (.ref 59), (.int 285 0), (.int 28 0), (.str (Str.ofString "/claim/cut.py") 286)]), #[]⟩) ::
    (nat_lit 61, ⟨(.type "function"), none, (.func ⟨(Str.ofString "parse257"), (Str.ofString "parse257"), pa7, .stmts bd7, sc7, 3, [], .none, .none, .none, (.str (Str.ofString "cpy313.ftplib") 239), none, (.ref 60), .none, 0⟩), #[]⟩) ::
    (nat_lit 62, ⟨.type "dict", none, .dict b3ents.toArray 650, #[]⟩) ::
    (nat_lit 101, ⟨(.type "tuple"), none, (.seq #[] 0), #[]⟩) ::
    (nat_lit 103, ⟨(.type "tuple"), none, (.seq #[(.str (Str.ofString "code") 2244), (.str (Str.ofString "r") 2245)] 0), #[]⟩) ::
    (nat_lit 104, ⟨(.type "tuple"), none, (.seq #[] 0), #[]⟩) ::
    (nat_lit 106, ⟨(.type "code"), none, (.fields #[(.str (Str.ofString "map_table_b3") 2241), (.str (Str.ofString "map_table_b3") 2242), (.str (Str.ofString "/claim/cut.py") 2243), (.int 47 0), (.int 1 0), (.int 0 0), (.int 0 0), (.int 3 0), (.ref 101), (.bool true), (.int 181 0), (.ref 102), .none, (.ref 103), (.ref 104), (.ref 105), (.int 2246 0), (.int 47 0), (.str (Str.ofString "/claim/cut.py") 2247)]), #[]⟩) ::
    (nat_lit 107, ⟨(.type "function"), none, (.func ⟨(Str.ofString "map_table_b3"), (Str.ofString "map_table_b3"), pa10, .stmts bd10, sc10, 3, [], .none, .none, .none, (.str (Str.ofString "cpy313.stringprep") 288), none, (.ref 106), .none, 0⟩), #[]⟩) ::
    (nat_lit 108, ⟨(.type "tuple"), none, (.seq #[] 0), #[]⟩) ::
    (nat_lit 110, ⟨(.type "tuple"), none, (.seq #[(.str (Str.ofString "code") 2252), (.str (Str.ofString "c") 2253)] 0), #[]⟩) ::
    (nat_lit 111, ⟨(.type "tuple"), none, (.seq #[] 0), #[]⟩) ::
    (nat_lit 113, ⟨(.type "code"), none, (.fields #[(.str (Str.ofString "in_table_c4") 2249), (.str (Str.ofString "in_table_c4") 2250), (.str (Str.ofString "/claim/cut.py") 2251), (.int 52 0), (.int 1 0), (.int 0 0), (.int 0 0), (.int 3 0), (.ref 108), (.bool true), (.int 181 0), (.ref 109), .none, (.ref 110), (.ref 111), (.ref 112), (.int 2254 0), (.int 52 0), (.str (Str.ofString "/claim/cut.py") 2255)]), #[]⟩) ::
    (nat_lit 114, ⟨(.type "function"), none, (.func ⟨(Str.ofString "in_table_c4"), (Str.ofString "in_table_c4"), pa11, .stmts bd11, sc11, 3, [], .none, .none, .none, (.str (Str.ofString "cpy313.stringprep") 288), none, (.ref 113), .none, 0⟩), #[]⟩) ::
    (nat_lit 128, ⟨(.type "set"), none, (.set #[(832, (.int 832 2257)), (833, (.int 833 2258)), (8234, (.int 8234 2266)), (8235, (.int 8235 2267)), (8236, (.int 8236 2268)), (8237, (.int 8237 2269)), (8206, (.int 8206 2259)), (8207, (.int 8207 2260)), (8238, (.int 8238 2270)), (8298, (.int 8298 2276)), (8299, (.int 8299 2277)), (8300, (.int 8300 2278)), (8301, (.int 8301 2279)), (8302, (.int 8302 2280)), (8303, (.int 8303 2281))] 16 ⟨31, #[0, 1, 10, 11, 12, 13, 14, 15, 16, 17, 18, 19, 20, 21, 22], #[], 0, !P.followText "set-order", 1, true⟩), #[]⟩) ::
    (nat_lit 132, ⟨(.type "tuple"), none, (.seq #[] 0), #[]⟩) ::
    (nat_lit 134, ⟨(.type "tuple"), none, (.seq #[(.str (Str.ofString "code") 2301)] 0), #[]⟩) ::
    (nat_lit 135, ⟨(.type "tuple"), none, (.seq #[] 0), #[]⟩) ::
    (nat_lit 137, ⟨(.type "code"), none, (.fields #[(.str (Str.ofString "in_table_c8") 2298), (.str (Str.ofString "in_table_c8") 2299), (.str (Str.ofString "/claim/cut.py") 2300), (.int 60 0), (.int 1 0), (.int 0 0), (.int 0 0), (.int 3 0), (.ref 132), (.bool true), (.int 181 0), (.ref 133), .none, (.ref 134), (.ref 135), (.ref 136), (.int 2302 0), (.int 60 0), (.str (Str.ofString "/claim/cut.py") 2303)]), #[]⟩) ::
    (nat_lit 138, ⟨(.type "function"), none, (.func ⟨(Str.ofString "in_table_c8"), (Str.ofString "in_table_c8"), pa13, .stmts bd13, sc13, 3, [], .none, .none, .none, (.str (Str.ofString "cpy313.stringprep") 288), none, (.ref 137), .none, 0⟩), #[]⟩) ::
    (nat_lit 139, ⟨(.type "tuple"), none, (.seq #[] 0), #[]⟩) ::
    (nat_lit 141, ⟨(.type "tuple"), none, (.seq #[(.str (Str.ofString "script") 2310), (.str (Str.ofString "drawn") 2311), (.str (Str.ofString "place") 2312)] 0), #[]⟩) ::
    (nat_lit 142, ⟨(.type "tuple"), none, (.seq #[] 0), #[]⟩) ::
    (nat_lit 144, ⟨(.type "code"), none, (.fields #[(.str (Str.ofString "_law_drawn") 2307), (.str (Str.ofString "_law_drawn") 2308), (.str (Str.ofString "/claim/cut.py") 2309), (.int 63 0), (.int 1 0), (.int 0 0), (.int 0 0), (.int 3 0), (.ref 139), (.bool true), (.int 181 0), (.ref 140), .none, (.ref 141), (.ref 142), (.ref 143), (.int 2313 0), (.int 63 0), (.str (Str.ofString "/claim/cut.py") 2314)]), #[]⟩) ::
    (nat_lit 145, ⟨(.type "function"), none, (.func ⟨(Str.ofString "_law_drawn"), (Str.ofString "_law_drawn"), pa15, .stmts bd15, sc15, 3, [], .none, .none, .none, (.str (Str.ofString "law_wk0036_01") 2305), none, (.ref 144), .none, 0⟩), #[]⟩) ::
    (nat_lit 146, ⟨(.type "tuple"), none, (.seq #[] 0), #[]⟩) ::
    (nat_lit 148, ⟨(.type "tuple"), none, (.seq #[(.str (Str.ofString "number") 2319), (.str (Str.ofString "figure") 2320)] 0), #[]⟩) ::
    (nat_lit 149, ⟨(.type "tuple"), none, (.seq #[] 0), #[]⟩) ::
    (nat_lit 151, ⟨(.type "code"), none, (.fields #[(.str (Str.ofString "_law_turn") 2316), (.str (Str.ofString "_law_turn") 2317), (.str (Str.ofString "/claim/cut.py") 2318), (.int 68 0), (.int 1 0), (.int 0 0), (.int 0 0), (.int 3 0), (.ref 146), (.bool true), (.int 181 0), (.ref 147), .none, (.ref 148), (.ref 149), (.ref 150), (.int 2321 0), (.int 68 0), (.str (Str.ofString "/claim/cut.py") 2322)]), #[]⟩) ::
    (nat_lit 152, ⟨(.type "function"), none, (.func ⟨(Str.ofString "_law_turn"), (Str.ofString "_law_turn"), pa16, .stmts bd16, sc16, 3, [], .none, .none, .none, (.str (Str.ofString "law_wk0036_01") 2305), none, (.ref 151), .none, 0⟩), #[]⟩) ::
    (nat_lit 153, ⟨(.type "tuple"), none, (.seq #[] 0), #[]⟩) ::
    (nat_lit 155, ⟨(.type "tuple"), none, (.seq #[(.str (Str.ofString "number") 2327), (.str (Str.ofString "form") 2328), (.str (Str.ofString "letter") 2329), (.str (Str.ofString "beside") 2330)] 0), #[]⟩) ::
    (nat_lit 156, ⟨(.type "tuple"), none, (.seq #[] 0), #[]⟩) ::
    (nat_lit 158, ⟨(.type "code"), none, (.fields #[(.str (Str.ofString "_law_good") 2324), (.str (Str.ofString "_law_good") 2325), (.str (Str.ofString "/claim/cut.py") 2326), (.int 75 0), (.int 1 0), (.int 0 0), (.int 0 0), (.int 3 0), (.ref 153), (.bool true), (.int 181 0), (.ref 154), .none, (.ref 155), (.ref 156), (.ref 157), (.int 2331 0), (.int 75 0), (.str (Str.ofString "/claim/cut.py") 2332)]), #[]⟩) ::
    (nat_lit 159, ⟨(.type "function"), none, (.func ⟨(Str.ofString "_law_good"), (Str.ofString "_law_good"), pa17, .stmts bd17, sc17, 3, [], .none, .none, .none, (.str (Str.ofString "law_wk0036_01") 2305), none, (.ref 158), .none, 0⟩), #[]⟩) ::
    (nat_lit 160, ⟨(.type "tuple"), none, (.seq #[] 0), #[]⟩) ::
    (nat_lit 162, ⟨(.type "tuple"), none, (.seq #[(.str (Str.ofString "sign") 2337), (.str (Str.ofString "place") 2338)] 0), #[]⟩) ::
    (nat_lit 163, ⟨(.type "tuple"), none, (.seq #[] 0), #[]⟩) ::
    (nat_lit 165, ⟨(.type "code"), none, (.fields #[(.str (Str.ofString "_law_codes") 2334), (.str (Str.ofString "_law_codes") 2335), (.str (Str.ofString "/claim/cut.py") 2336), (.int 87 0), (.int 2 0), (.int 0 0), (.int 0 0), (.int 3 0), (.ref 160), (.bool true), (.int 181 0), (.ref 161), .none, (.ref 162), (.ref 163), (.ref 164), (.int 2339 0), (.int 87 0), (.str (Str.ofString "/claim/cut.py") 2340)]), #[]⟩) ::
    (nat_lit 166, ⟨(.type "function"), none, (.func ⟨(Str.ofString "_law_codes"), (Str.ofString "_law_codes"), pa18, .stmts bd18, sc18, 3, [], .none, .none, .none, (.str (Str.ofString "law_wk0036_01") 2305), none, (.ref 165), .none, 0⟩), #[]⟩) ::
    (nat_lit 167, ⟨(.type "tuple"), none, (.seq #[] 0), #[]⟩) ::
    (nat_lit 169, ⟨(.type "tuple"), none, (.seq #[(.str (Str.ofString "told") 2345), (.str (Str.ofString "turns") 2346), (.str (Str.ofString "worth") 2347), (.str (Str.ofString "sign") 2348), (.str (Str.ofString "place") 2349)] 0), #[]⟩) ::
    (nat_lit 170, ⟨(.type "tuple"), none, (.seq #[] 0), #[]⟩) ::
    (nat_lit 172, ⟨(.type "code"), none, (.fields #[(.str (Str.ofString "_law_heard") 2342), (.str (Str.ofString "_law_heard") 2343), (.str (Str.ofString "/claim/cut.py") 2344), (.int 91 0), (.int 1 0), (.int 0 0), (.int 0 0), (.int 3 0), (.ref 167), (.bool true), (.int 181 0), (.ref 168), .none, (.ref 169), (.ref 170), (.ref 171), (.int 2350 0), (.int 91 0), (.str (Str.ofString "/claim/cut.py") 2351)]), #[]⟩) ::
    (nat_lit 173, ⟨(.type "function"), none, (.func ⟨(Str.ofString "_law_heard"), (Str.ofString "_law_heard"), pa19, .stmts bd19, sc19, 3, [], .none, .none, .none, (.str (Str.ofString "law_wk0036_01") 2305), none, (.ref 172), .none, 0⟩), #[]⟩) ::
    (nat_lit 174, ⟨(.type "tuple"), none, (.seq #[] 0), #[]⟩) ::
    (nat_lit 177, ⟨(.type "code"), none, (.fields #[(.str (Str.ofString "_law_played") 2353), (.str (Str.ofString "_law_played") 2354), (.str (Str.ofString "/claim/cut.py") 2355), (.int 103 0), (.int 2 0), (.int 0 0), (.int 0 0), (.int 3 0), (.ref 174), (.bool true), (.int 181 0), (.ref 175), .none, .none, .none, (.ref 176), (.int 2356 0), (.int 103 0), (.str (Str.ofString "/claim/cut.py") 2357)]), #[]⟩) ::
    (nat_lit 178, ⟨(.type "function"), none, (.func ⟨(Str.ofString "_law_played"), (Str.ofString "_law_played"), pa20, .stmts bd20, sc20, 3, [], .none, .none, .none, (.str (Str.ofString "law_wk0036_01") 2305), none, (.ref 177), .none, 0⟩), #[]⟩) ::
    (nat_lit 179, ⟨(.type "tuple"), none, (.seq #[] 0), #[]⟩) ::
    (nat_lit 182, ⟨(.type "code"), none, (.fields #[(.str (Str.ofString "_law_crossed") 2359), (.str (Str.ofString "_law_crossed") 2360), (.str (Str.ofString "/claim/cut.py") 2361), (.int 118 0), (.int 2 0), (.int 0 0), (.int 0 0), (.int 3 0), (.ref 179), (.bool true), (.int 181 0), (.ref 180), .none, .none, .none, (.ref 181), (.int 2362 0), (.int 118 0), (.str (Str.ofString "/claim/cut.py") 2363)]), #[]⟩) ::
    (nat_lit 183, ⟨(.type "function"), none, (.func ⟨(Str.ofString "_law_crossed"), (Str.ofString "_law_crossed"), pa21, .stmts bd21, sc21, 3, [], .none, .none, .none, (.str (Str.ofString "law_wk0036_01") 2305), none, (.ref 182), .none, 0⟩), #[]⟩) ::
    (nat_lit 184, ⟨(.type "tuple"), none, (.seq #[] 0), #[]⟩) ::
    (nat_lit 187, ⟨(.type "code"), none, (.fields #[(.str (Str.ofString "_law_worded") 2365), (.str (Str.ofString "_law_worded") 2366), (.str (Str.ofString "/claim/cut.py") 2367), (.int 125 0), (.int 1 0), (.int 0 0), (.int 0 0), (.int 3 0), (.ref 184), (.bool true), (.int 181 0), (.ref 185), .none, .none, .none, (.ref 186), (.int 2368 0), (.int 125 0), (.str (Str.ofString "/claim/cut.py") 2369)]), #[]⟩) ::
    (nat_lit 188, ⟨(.type "function"), none, (.func ⟨(Str.ofString "_law_worded"), (Str.ofString "_law_worded"), pa22, .stmts bd22, sc22, 3, [], .none, .none, .none, (.str (Str.ofString "law_wk0036_01") 2305), none, (.ref 187), .none, 0⟩), #[]⟩) ::
    (nat_lit 189, ⟨(.type "tuple"), none, (.seq #[] 0), #[]⟩) ::
    (nat_lit 191, ⟨(.type "tuple"), none, (.seq #[(.str (Str.ofString "turns") 2374), (.str (Str.ofString "who") 2375), (.str (Str.ofString "lead") 2376), (.str (Str.ofString "most") 2377), (.str (Str.ofString "turn") 2378)] 0), #[]⟩) ::
    (nat_lit 192, ⟨(.type "tuple"), none, (.seq #[] 0), #[]⟩) ::
    (nat_lit 194, ⟨(.type "code"), none, (.fields #[(.str (Str.ofString "_law_ahead") 2371), (.str (Str.ofString "_law_ahead") 2372), (.str (Str.ofString "/claim/cut.py") 2373), (.int 130 0), (.int 2 0), (.int 0 0), (.int 0 0), (.int 3 0), (.ref 189), (.bool true), (.int 181 0), (.ref 190), .none, (.ref 191), (.ref 192), (.ref 193), (.int 2379 0), (.int 130 0), (.str (Str.ofString "/claim/cut.py") 2380)]), #[]⟩) ::
    (nat_lit 195, ⟨(.type "function"), none, (.func ⟨(Str.ofString "_law_ahead"), (Str.ofString "_law_ahead"), pa23, .stmts bd23, sc23, 3, [], .none, .none, .none, (.str (Str.ofString "law_wk0036_01") 2305), none, (.ref 194), .none, 0⟩), #[]⟩) ::
    (nat_lit 196, ⟨(.type "tuple"), none, (.seq #[] 0), #[]⟩) ::
    (nat_lit 199, ⟨(.type "code"), none, (.fields #[(.str (Str.ofString "_law_content") 2382), (.str (Str.ofString "_law_content") 2383), (.str (Str.ofString "/claim/cut.py") 2384), (.int 136 0), (.int 3 0), (.int 0 0), (.int 0 0), (.int 3 0), (.ref 196), (.bool true), (.int 181 0), (.ref 197), .none, .none, .none, (.ref 198), (.int 2385 0), (.int 136 0), (.str (Str.ofString "/claim/cut.py") 2386)]), #[]⟩) ::
    (nat_lit 200, ⟨(.type "function"), none, (.func ⟨(Str.ofString "_law_content"), (Str.ofString "_law_content"), pa24, .stmts bd24, sc24, 3, [], .none, .none, .none, (.str (Str.ofString "law_wk0036_01") 2305), none, (.ref 199), .none, 0⟩), #[]⟩) ::
    (nat_lit 201, ⟨(.type "tuple"), none, (.seq #[] 0), #[]⟩) ::
    (nat_lit 204, ⟨(.type "code"), none, (.fields #[(.str (Str.ofString "law") 2388), (.str (Str.ofString "law") 2389), (.str (Str.ofString "/claim/cut.py") 2390), (.int 142 0), (.int 1 0), (.int 0 0), (.int 0 0), (.int 3 0), (.ref 201), (.bool true), (.int 181 0), (.ref 202), .none, .none, .none, (.ref 203), (.int 2391 0), (.int 142 0), (.str (Str.ofString "/claim/cut.py") 2392)]), #[]⟩) ::
    (nat_lit 205, ⟨(.type "function"), none, (.func ⟨(Str.ofString "law"), (Str.ofString "law"), pa25, .stmts bd25, sc25, 3, [], .none, .none, .none, (.str (Str.ofString "law_wk0036_01") 2305), none, (.ref 204), .none, 0⟩), #[]⟩) :: []) → Params → Frag) _ _
  · exact fun f _ => f
  rotate_left
  · delta pa2 bd2 sc2 pa3 bd3 sc3 pa7 bd7 sc7 pa10 bd10 sc10 pa11 bd11 sc11 pa13 bd13 sc13 pa15 bd15 sc15 pa16 bd16 sc16 pa17 bd17 sc17 pa18 bd18 sc18 pa19 bd19 sc19 pa20 bd20 sc20 pa21 bd21 sc21 pa22 bd22 sc22 pa23 bd23 sc23 pa24 bd24 sc24 pa25 bd25 sc25; exact rfl
noncomputable abbrev KA : List Addr := [nat_lit 2, nat_lit 3, nat_lit 15, nat_lit 16, nat_lit 18, nat_lit 19, nat_lit 21, nat_lit 22, nat_lit 23, nat_lit 25, nat_lit 26, nat_lit 28, nat_lit 29, nat_lit 30, nat_lit 37, nat_lit 38, nat_lit 39, nat_lit 40, nat_lit 43, nat_lit 50, nat_lit 51, nat_lit 52, nat_lit 55, nat_lit 57, nat_lit 58, nat_lit 60, nat_lit 61, nat_lit 62, nat_lit 101, nat_lit 103, nat_lit 104, nat_lit 106, nat_lit 107, nat_lit 108, nat_lit 110, nat_lit 111, nat_lit 113, nat_lit 114, nat_lit 128, nat_lit 132, nat_lit 134, nat_lit 135, nat_lit 137, nat_lit 138, nat_lit 139, nat_lit 141, nat_lit 142, nat_lit 144, nat_lit 145, nat_lit 146, nat_lit 148, nat_lit 149, nat_lit 151, nat_lit 152, nat_lit 153, nat_lit 155, nat_lit 156, nat_lit 158, nat_lit 159, nat_lit 160, nat_lit 162, nat_lit 163, nat_lit 165, nat_lit 166, nat_lit 167, nat_lit 169, nat_lit 170, nat_lit 172, nat_lit 173, nat_lit 174, nat_lit 177, nat_lit 178, nat_lit 179, nat_lit 182, nat_lit 183, nat_lit 184, nat_lit 187, nat_lit 188, nat_lit 189, nat_lit 191, nat_lit 192, nat_lit 194, nat_lit 195, nat_lit 196, nat_lit 199, nat_lit 200, nat_lit 201, nat_lit 204, nat_lit 205]
theorem KA_eq : ∀ P, KA = (K P).map (·.1) := fun P => by kernel_rfl
end Mine
end
section
open PySem PySem.W PyProof.Rows
set_option maxRecDepth 100000
namespace Mine
noncomputable abbrev looseN : List Str := [Str.ofString "COMPILER_FLAG_NAMES", Str.ofString "b3_exceptions", Str.ofString "c8_set"]
noncomputable abbrev H1 (P : Params) : Heap := absHeap (s26_tree P) 206 {}
noncomputable abbrev SF (w : World) (os : OsState) : Shared := ⟨H1 w.params, #[], {}, 2394, os⟩
noncomputable abbrev XtN : Shared → Bool := fun _ => true
theorem xp_all (mg : Str → Option Value) (h : Heap) : XL vw [] mg h := by
  have x1 : Flt.mathMods vw = [] := by kernel_rfl
  have x2 : Flt.mathDrawn vw = [] := by kernel_rfl
  have x3 : Flt.patsOf vw = [] := by kernel_rfl
  exact ⟨⟨fun x hx => by rw [x1] at hx; exact (nomatch hx), fun x hx => by rw [x2] at hx; exact (nomatch hx), fun x hx => by rw [x3] at hx; exact (nomatch hx)⟩, ⟨fun q hq => nomatch hq⟩⟩
theorem look3 (w : World) (os : OsState) : (fun s : Shared => KA.map s.heap.get?) (SF w os) = (K w.params).map fun p => some p.2 := by
  kernel_rfl
theorem look1 (w : World) (os : OsState) : (staticsOk (importedModules pwX.main.body) (boot_heap w.params) (H1 w.params) && namesBound pwX (H1 w.params) && gensDone (SF w os) && laidKept (boot_heap w.params) (H1 w.params)) = true := by
  kernel_rfl
theorem l1 (w : World) (os : OsState) : seen ((recsOf vw).map (·.name)) (ownsOf vw) [] { SF w os with gens := #[] } = expectedOf vw := by
  kernel_rfl
theorem l2 (w : World) (os : OsState) : (SF w os).heap.bltView = bltViewBooted := by kernel_rfl
theorem l3a (w : World) (os : OsState) : (SF w os).heap.keysOk (looseW vw looseN) ((recsOf vw).map (·.name)) ((litsOf vw).map (·.1)) ((clssOf vw (looseW vw looseN)).map (·.name)) = true := by
  kernel_rfl
theorem l3b (w : World) (os : OsState) : (SF w os).heap.accountedOkI (importedModules pwX.main.body) = true := by kernel_rfl
theorem l3c (w : World) (os : OsState) : (SF w os).heap.isNs mainGlobals = true := by kernel_rfl
theorem l3c' (w : World) (os : OsState) : (SF w os).heap.isNs builtinsNs = true := by kernel_rfl
theorem l3d (w : World) (os : OsState) : tablesOk vw (SF w os).heap = true := by kernel_rfl
theorem l3 (w : World) (os : OsState) : ((SF w os).heap.keysOk (looseW vw looseN) ((recsOf vw).map (·.name)) ((litsOf vw).map (·.1)) ((clssOf vw (looseW vw looseN)).map (·.name)) && (SF w os).heap.accountedOkI (importedModules pwX.main.body) && (SF w os).heap.isNs mainGlobals && (SF w os).heap.isNs builtinsNs && tablesOk vw (SF w os).heap && XtN (SF w os) && (if true then (SF w os).gens.size == 0 else !leftWithCleanup (SF w os).gens)) = true := by
  rw [l3a, l3b, l3c, l3c', l3d]
  rfl
theorem l4 (w : World) (os : OsState) : tabsOk vw (SF w os) = true := by kernel_rfl
theorem l5 (w : World) (os : OsState) : pinSeenD vw (drecsOf vw) (SF w os) = pinGoodD (drecsOf vw) := by kernel_rfl
theorem l6 (w : World) (os : OsState) : plainSeenE vw (looseW vw looseN) (SF w os) = plainGoodE vw (looseW vw looseN) := by kernel_rfl
theorem l7 (w : World) (os : OsState) : plainSeenD vw looseN (SF w os) = plainGoodD vw looseN := by kernel_rfl
theorem l8 (w : World) (os : OsState) : wideSeen vw (SF w os) = wideGood vw := by kernel_rfl
theorem l9 (w : World) (os : OsState) : clsSeenW vw looseN (SF w os) = clsGoodW vw looseN := by kernel_rfl
theorem look2 (w : World) (os : OsState) : openSeen vw looseN (importedModules pwX.main.body) XtN true (SF w os) = openGood vw looseN :=
  looks_pair (l1 w os) (looks_pair (l2 w os) (looks_pair (l3 w os) (looks_pair (l4 w os) (looks_pair (l5 w os) (looks_pair (l6 w os) (looks_pair (l7 w os) (looks_pair (l8 w os) (l9 w os))))))))
theorem leftN : LeftO pwX vw looseN XtN (fun s : Shared => KA.map s.heap.get?) (fun w => (K w.params).map fun p => some p.2) 30000 :=
  LeftO.of_pieces (H₁ := H1) (gs₁ := #[]) (d₁ := {}) (k₁ := 2394) open_all size_all (fun w os => run_all w os) (by decide) (fun w => funext fun os => looks_pair (look1 w os) (looks_pair (look2 w os) (look3 w os)))
end Mine
end
section
open PySem PySem.W PyProof.Rows
set_option maxRecDepth 100000
namespace Mine
theorem said_row : PySem.Challenge.rw_wk0036_01.row.wellSaid = true := by
  unfold OpenRow.wellSaid OpenRow.partSaid looksOpen
  with_reducible repeat' refine look_both ?_ ?_
  all_goals (try rw [PySem.W.Fast.te8326940854005059898]); (try rw [PySem.W.Fast.te17119622794617984870]); (try rw [PySem.W.Fast.te8377067652309620493]); decide +kernel
theorem said_law : PySem.Challenge.rw_wk0036_01.wellSaid = true := by
  unfold OpenLaw.wellSaid
  rw [said_row, Bool.true_and]
  with_reducible repeat' refine look_both ?_ ?_
  all_goals (try rw [PySem.W.Fast.te8326940854005059898]); (try rw [PySem.W.Fast.te17119622794617984870]); decide +kernel
set_option maxHeartbeats 8000000 in
theorem hd2 (hc : WalkO vw looseN (XL vw []) (kHook K KA KA_eq).says PySem.Challenge.rw_wk0036_01.row.toRowW ⟨Str.ofString "law", pa25, bd25, sc25, ⟨142, 0, 156, 51⟩⟩ [] (fun f vs => PySem.call f vs)) : PySem.Challenge.rw_wk0036_01.Holds := by
  refine holds_law said_law fun said => ?_
  refine PySem.W.holds_open (q := vw) (loose := looseN) (Xt := XtN) (XP := XL vw []) (Yf := Hook.obs (kHook K KA KA_eq)) (Ya := Hook.val (kHook K KA KA_eq)) (YP := Hook.says (kHook K KA KA_eq)) (N := 30000) ?hl (Hook.of (kHook K KA KA_eq)) (Hook.keeps (kHook K KA KA_eq))
    (fun _ _ => xp_all _ _) XL.keeps (by rfl) (by rfl) (by rfl) (fun s e => recFacts_nil rfl) (by rfl) (by first | assumption | decide +kernel) (by decide +kernel) ⟨rfl, rfl, rfl, rfl, rfl, by decide +kernel⟩ ?hw hc
  case hl => exact leftN
  case hw => w_witness2
end Mine
end
section
open PySem PySem.W PyProof.Rows
set_option maxRecDepth 100000
namespace Mine
noncomputable abbrev Led := List (Addr × Obj)
/-- a contract of a def at f: called with vs, where Pre holds of the base and the ledger, it hands back r with new objects tl, Post -/
noncomputable def Ct (w : World) (mean : ExcName → Option Value) (mg mb : Str → Option Value) (f : Addr) (vs : List Value) (Pre : Heap → Led → Prop) (Post : Led → Value → Prop) : Prop :=
  ∀ (dp un : Nat) (gd : Option (List Code)) (cn : Str) (cs : Scope) (a : Addr) (ccd : Value) (cl : List (Str × Addr)) (outer : List Env) (A₀ : Around) (base h₀ : Heap) (L : Addr) (m : Str → Option Value) (news : Led) (s : Shared) (Q E : Value → Shared → Prop),
    Below A₀ base outer h₀ → Fr h₀ L s.heap m → (K w.params).In h₀ → News h₀ L s.heap news → Top vw (looseW vw looseN) mean mg mb h₀ → cs.kind = .function → Pre base news → dp + 10 < recursionLimit → un + 100 < cLine →
    (∀ r tl h' tk', Fr h₀ L h' m → News h₀ L h' (tl ++ news) → (∀ p ∈ tl, ∀ q ∈ news, q.1 < p.1) → Post tl r → Q r { s with heap := h', toks := tk' }) →
    wpAny (model PySem.Challenge.pw_wk0036_01 w) (ktrTop dp un gd cn cs L a ccd cl outer) (call (.ref f) vs) Q E s
theorem Ct.use {w : World} {mean : ExcName → Option Value} {mg mb : Str → Option Value} {f : Addr} {vs : List Value} {Pre : Heap → Led → Prop} {Post : Led → Value → Prop} (C : Ct w mean mg mb f vs Pre Post)
    {dp un : Nat} {gd : Option (List Code)} {cn : Str} {cs : Scope} {a : Addr} {ccd : Value} {cl : List (Str × Addr)} {outer : List Env} {A₀ : Around} {base h₀ : Heap} {L : Addr} {m : Str → Option Value} {news : Led} {s : Shared} {Q E : Value → Shared → Prop}
    (B : Below A₀ base outer h₀) (F : Fr h₀ L s.heap m) (X : (K w.params).In h₀) (N : News h₀ L s.heap news) (T : Top vw (looseW vw looseN) mean mg mb h₀) (hk : cs.kind = .function) (hp : Pre base news) (hd : dp + 10 < recursionLimit) (hu : un + 100 < cLine)
    (ret : ∀ r tl h' tk', Fr h₀ L h' m → News h₀ L h' (tl ++ news) → (∀ p ∈ tl, ∀ q ∈ news, q.1 < p.1) → Post tl r → Q r { s with heap := h', toks := tk' }) :
    wpAny (model PySem.Challenge.pw_wk0036_01 w) (ktrTop dp un gd cn cs L a ccd cl outer) (call (.ref f) vs) Q E s := C _ _ _ _ _ _ _ _ _ _ _ _ _ _ _ _ _ _ B F X N T hk hp hd hu ret
/-- the same of a def that calls others; a contract of a def at f: called with vs, where Pre holds of the base and the ledger, it hands back r with new objects tl, Post -/
noncomputable def Ct2 (w : World) (mean : ExcName → Option Value) (mg mb : Str → Option Value) (f : Addr) (vs : List Value) (Pre : Heap → Led → Prop) (Post : Led → Value → Prop) : Prop :=
  ∀ (dp un : Nat) (gd : Option (List Code)) (cn : Str) (cs : Scope) (a : Addr) (ccd : Value) (cl : List (Str × Addr)) (outer : List Env) (A₀ : Around) (base h₀ : Heap) (L : Addr) (m : Str → Option Value) (news : Led) (s : Shared) (Q E : Value → Shared → Prop),
    Below A₀ base outer h₀ → Fr h₀ L s.heap m → (K w.params).In h₀ → News h₀ L s.heap news → Top vw (looseW vw looseN) mean mg mb h₀ → cs.kind = .function → Pre base news → dp + 20 < recursionLimit → un + 200 < cLine →
    (∀ r tl h' tk', Fr h₀ L h' m → News h₀ L h' (tl ++ news) → (∀ p ∈ tl, ∀ q ∈ news, q.1 < p.1) → Post tl r → Q r { s with heap := h', toks := tk' }) →
    wpAny (model PySem.Challenge.pw_wk0036_01 w) (ktrTop dp un gd cn cs L a ccd cl outer) (call (.ref f) vs) Q E s
theorem Ct2.use {w : World} {mean : ExcName → Option Value} {mg mb : Str → Option Value} {f : Addr} {vs : List Value} {Pre : Heap → Led → Prop} {Post : Led → Value → Prop} (C : Ct2 w mean mg mb f vs Pre Post)
    {dp un : Nat} {gd : Option (List Code)} {cn : Str} {cs : Scope} {a : Addr} {ccd : Value} {cl : List (Str × Addr)} {outer : List Env} {A₀ : Around} {base h₀ : Heap} {L : Addr} {m : Str → Option Value} {news : Led} {s : Shared} {Q E : Value → Shared → Prop}
    (B : Below A₀ base outer h₀) (F : Fr h₀ L s.heap m) (X : (K w.params).In h₀) (N : News h₀ L s.heap news) (T : Top vw (looseW vw looseN) mean mg mb h₀) (hk : cs.kind = .function) (hp : Pre base news) (hd : dp + 20 < recursionLimit) (hu : un + 200 < cLine)
    (ret : ∀ r tl h' tk', Fr h₀ L h' m → News h₀ L h' (tl ++ news) → (∀ p ∈ tl, ∀ q ∈ news, q.1 < p.1) → Post tl r → Q r { s with heap := h', toks := tk' }) :
    wpAny (model PySem.Challenge.pw_wk0036_01 w) (ktrTop dp un gd cn cs L a ccd cl outer) (call (.ref f) vs) Q E s := C _ _ _ _ _ _ _ _ _ _ _ _ _ _ _ _ _ _ B F X N T hk hp hd hu ret
theorem fill : PySem.Challenge.rw_wk0036_01 = PySem.Challenge.rw_wk0036_01 → Mine.K = Mine.K → True := by
  k_fill
  intro _ _
  trivial

theorem allLt_mem {d : Addr} : ∀ {l : Led}, AllLt d l → ∀ q ∈ l, q.1 < d
  | [], _, q, hq => nomatch hq
  | p :: l, h, q, hq => by
    rcases List.mem_cons.mp hq with rfl | hq
    · exact h.1
    · exact allLt_mem h.2 q hq
theorem lt_nil {news : Led} : ∀ p ∈ ([] : Led), ∀ q ∈ news, q.1 < p.1 := fun _ h => nomatch h
theorem lt_one {news : Led} {x : Addr} {o : Obj} (h : ∀ q ∈ news, q.1 < x) : ∀ p ∈ ([(x, o)] : Led), ∀ q ∈ news, q.1 < p.1 := fun p hp q hq => by
  cases List.mem_singleton.mp hp
  exact h q hq
theorem lt_use {news : Led} {x : Addr} {o : Obj} (h : ∀ p ∈ ([(x, o)] : Led), ∀ q ∈ news, q.1 < p.1) : ∀ q ∈ news, q.1 < x := fun q hq => h (x, o) (.head _) q hq

/-! what the helpers give, as plain functions -/
noncomputable def goodOf (i : Nat) : Nat × Nat :=
  if i % 14 = 0 then (34, 34) else if i % 14 = 1 then (97 + i / 14, 97 + i / 14) else if i % 14 = 2 then (65 + i / 14, 97 + i / 14)
  else if i % 14 = 13 then let b := [831, 834, 8205, 8208, 8233, 8239, 8297, 8304, 64975, 65008, 65533, 65536].getD (i / 14 % 12) 0; (b, b)
  else (119808 + 52 * [0, 1, 2, 4, 7, 8, 9, 10, 11, 12].getD (i % 14 - 3) 0 + i / 14, 97 + i / 14)
noncomputable def turnOf (par fig : Nat) : Nat :=
  if par = 0 then [832, 833, 8206, 8207, 8234, 8235, 8236, 8237, 8238, 8298, 8299, 8300, 8301, 8302, 8303].getD (fig % 15) 0
  else if fig < 32 then 64976 + fig else 65536 * (fig / 2 - 16) + 65534 + fig % 2
noncomputable def gi (n : Int) : Nat := (n / 132 % 364).toNat
noncomputable def ti (n : Int) : Nat := (n / 2 % 66).toNat
noncomputable def pi (n : Int) : Nat := (n % 2).toNat
noncomputable def one (k : Nat) : Str := ⟨#[k]⟩
noncomputable def codesOf (k : Nat) (p : Int) : Int := if k / 64 % 2 = 0 then k % 64 else k % 64 * 64 + p
noncomputable def GoodPost (n : Int) (tl : Led) (r : Value) : Prop := ∃ (x : Addr) (t u : Tok) (c : Nat), tl = [(x, ({ cls := .type "tuple", data := .seq #[.str (one (goodOf (gi n)).1) t, .int ((goodOf (gi n)).2 : Int) u] c } : Obj))] ∧ r = .ref x
end Mine
end
section
open PySem PySem.W PyProof.Rows
namespace Mine
theorem news_sub {h₀ h : Heap} {L : Addr} {l l' : Led} (N : News h₀ L h l) (hs : ∀ p ∈ l', p ∈ l) : News h₀ L h l' := fun p hp => N p (hs p hp)
theorem drawn_state {L : List Int} {p : List Int} {k e : Int} {i : Nat} (h1 : L.length = 5) (h2 : ∀ x ∈ L, 0 ≤ x ∧ x ≤ 1000000 * ((p.length : Int) + 1)) :
    (L.set i (L.getD i 0 + e.fmod (10 ^ Int.toNat 6))).length = 5 ∧ ∀ x ∈ L.set i (L.getD i 0 + e.fmod (10 ^ Int.toNat 6)), 0 ≤ x ∧ x ≤ 1000000 * (((p ++ [k]).length : Int) + 1) := by
  have e6 : ((10 : Int) ^ Int.toNat 6) = 1000000 := by decide
  rw [e6]
  have m1 := Int.fmod_nonneg_of_pos e (b := 1000000) (by decide)
  have m2 := Int.fmod_lt_of_pos e (b := 1000000) (by decide)
  refine ⟨by rw [List.length_set]; exact h1, fun x hx => ?_⟩
  rw [List.length_append, List.length_singleton]
  have hg : 0 ≤ L.getD i 0 ∧ L.getD i 0 ≤ 1000000 * ((p.length : Int) + 1) := by
    by_cases hi : i < L.length
    · rw [List.getD_eq_getElem?_getD, List.getElem?_eq_getElem hi]; exact h2 _ (List.getElem_mem hi)
    · rw [List.getD_eq_getElem?_getD, List.getElem?_eq_none (by omega)]; show (0 : Int) ≤ 0 ∧ (0 : Int) ≤ _; omega
  rcases List.mem_or_eq_of_mem_set hx with hx | rfl
  · have := h2 x hx; omega
  · omega
noncomputable def DrawnPost (tl : Led) (r : Value) : Prop := ∃ (x : Addr) (d0 d1 d2 d3 d4 : Int) (t0 t1 t2 t3 t4 : Tok) (c : Nat), tl = [(x, PySem.W.listOf #[.int d0 t0, .int d1 t1, .int d2 t2, .int d3 t3, .int d4 t4] c)] ∧ r = .ref x ∧
  (0 ≤ d0 ∧ d0 ≤ 100000000) ∧ (0 ≤ d1 ∧ d1 ≤ 100000000) ∧ (0 ≤ d2 ∧ d2 ≤ 100000000) ∧ (0 ≤ d3 ∧ d3 ≤ 100000000) ∧ (0 ≤ d4 ∧ d4 ≤ 100000000)
theorem ints_cons {vs : List Value} {n : Int} {ns : List Int} (h : IntsAre vs (n :: ns)) : ∃ t us, vs = .int n t :: us ∧ IntsAre us ns := by
  cases h with
  | cons _ t h => exact ⟨t, _, rfl, h⟩
theorem ints_nil {vs : List Value} (h : IntsAre vs []) : vs = [] := by
  cases h; rfl
theorem drawn_end {vs : List Value} {L : List Int} {x : Addr} {c k : Nat} (hi : IntsAre vs L) (h1 : L.length = 5) (h2 : ∀ y ∈ L, 0 ≤ y ∧ y ≤ 1000000 * ((k : Int) + 1)) (hk : k ≤ 20) : DrawnPost [(x, PySem.W.listOf vs.toArray c)] (.ref x) := by
  match L, h1 with
  | [d0, d1, d2, d3, d4], _ =>
    obtain ⟨t0, u0, e0, i0⟩ := ints_cons hi
    obtain ⟨t1, u1, e1, i1⟩ := ints_cons i0
    obtain ⟨t2, u2, e2, i2⟩ := ints_cons i1
    obtain ⟨t3, u3, e3, i3⟩ := ints_cons i2
    obtain ⟨t4, u4, e4, i4⟩ := ints_cons i3
    obtain e5 := ints_nil i4
    subst e5 e4 e3 e2 e1 e0
    have b0 := h2 d0 (by simp)
    have b1 := h2 d1 (by simp)
    have b2 := h2 d2 (by simp)
    have b3 := h2 d3 (by simp)
    have b4 := h2 d4 (by simp)
    exact ⟨x, d0, d1, d2, d3, d4, t0, t1, t2, t3, t4, c, rfl, rfl, by omega, by omega, by omega, by omega, by omega⟩
theorem range_len {n : Nat} : (rangeKs 0 ((n : Int) - 0).toNat).length = n := by
  rw [rangeKs_length]; omega
set_option maxRecDepth 100000 in
set_option maxHeartbeats 8000000 in
theorem C_drawn (w : World) (mean : ExcName → Option Value) (mg mb : Str → Option Value) (l : Addr) (vs : List Value) (ns : List Int) :
  Ct w mean mg mb 145 [.ref l] (fun base _ => base.IsList l vs.toArray ∧ IntsAre vs ns ∧ ns.length < 2 ^ 20) DrawnPost := by
  unfold Ct
  intro dp un gd cn cs a ccd cl outer A₀ base h₀ L m news s Q E B F X N T hk pre hd hu ret
  obtain ⟨p1, p2, p3⟩ := pre
  refine wpAny_call ?_
  k_dflt cell_enter
  k_with "pyIter ref" => k_state (fun pre items => items.length = 5 ∧ ∀ x ∈ items, 0 ≤ x ∧ x ≤ 1000000 * ((pre.length : Int) + 1)) "drawn"
  k_with "state" => exact drawn_state (by assumption) (by assumption)
  k_steps
  all_goals (rename News h₀ L _ _ => zN; rename Fr h₀ L _ _ => zF; rename IntsAre _ _ => zI; rename (∀ x ∈ _, 0 ≤ x ∧ x ≤ _) => z2; rename (List.length _ = 5) => z1)
  all_goals exact ret _ _ _ _ zF (news_sub (l' := [_] ++ news) zN (by intro p hp; rcases List.mem_cons.mp hp with rfl | hp; exact .tail _ (.head _); exact .tail _ (.tail _ hp))) (lt_one (by assumption)) (drawn_end zI z1 z2 (by rw [range_len]; rw [List.length_take]; omega))
  k_with_none
end Mine
end
section
open PySem PySem.W PyProof.Rows
namespace Mine
theorem menuG (i : Nat) : 0 ≤ ([831, 834, 8205, 8208, 8233, 8239, 8297, 8304, 64975, 65008, 65533, 65536] : List Int).getD i 0 ∧ ([831, 834, 8205, 8208, 8233, 8239, 8297, 8304, 64975, 65008, 65533, 65536] : List Int).getD i 0 ≤ 1114111 := by
  by_cases h : i < 12
  · have : ∀ j < 12, 0 ≤ ([831, 834, 8205, 8208, 8233, 8239, 8297, 8304, 64975, 65008, 65533, 65536] : List Int).getD j 0 ∧ ([831, 834, 8205, 8208, 8233, 8239, 8297, 8304, 64975, 65008, 65533, 65536] : List Int).getD j 0 ≤ 1114111 := by decide
    exact this i h
  · rw [List.getD_eq_getElem?_getD, List.getElem?_eq_none (by simp only [List.length_cons, List.length_nil]; omega)]
    decide
theorem menuH (i : Nat) : 0 ≤ ([0, 1, 2, 4, 7, 8, 9, 10, 11, 12] : List Int).getD i 0 ∧ ([0, 1, 2, 4, 7, 8, 9, 10, 11, 12] : List Int).getD i 0 ≤ 12 := by
  by_cases h : i < 10
  · have : ∀ j < 10, 0 ≤ ([0, 1, 2, 4, 7, 8, 9, 10, 11, 12] : List Int).getD j 0 ∧ ([0, 1, 2, 4, 7, 8, 9, 10, 11, 12] : List Int).getD j 0 ≤ 12 := by decide
    exact this i h
  · rw [List.getD_eq_getElem?_getD, List.getElem?_eq_none (by simp only [List.length_cons, List.length_nil]; omega)]
    decide
theorem gform (n : Int) : ((n.fdiv 132).fmod 364) = (gi n : Int) ∧ gi n < 364 := by
  unfold gi
  rw [Int.fdiv_eq_ediv_of_nonneg _ (by decide), Int.fmod_eq_emod_of_nonneg _ (by decide)]
  omega
theorem gletter (n : Int) : 0 ≤ ((n.fdiv 132).fmod 364).fdiv 14 ∧ ((n.fdiv 132).fmod 364).fdiv 14 ≤ 25 := by
  obtain ⟨e, h⟩ := gform n
  rw [e, Int.fdiv_eq_ediv_of_nonneg _ (by decide)]
  omega
theorem chr5 (n : Int) (i : Nat) : 0 ≤ 119808 + 52 * ([0, 1, 2, 4, 7, 8, 9, 10, 11, 12] : List Int).getD i 0 + ((n.fdiv 132).fmod 364).fdiv 14 ∧ 119808 + 52 * ([0, 1, 2, 4, 7, 8, 9, 10, 11, 12] : List Int).getD i 0 + ((n.fdiv 132).fmod 364).fdiv 14 ≤ 1114111 := by
  have := menuH i
  have := gletter n
  omega
theorem gFm (n : Int) : ((n.fdiv 132).fmod 364).fmod 14 = ((gi n % 14 : Nat) : Int) := by
  obtain ⟨e, h⟩ := gform n
  rw [e, Int.fmod_eq_emod_of_nonneg _ (by decide)]
  rfl
theorem gLt (n : Int) : ((n.fdiv 132).fmod 364).fdiv 14 = ((gi n / 14 : Nat) : Int) := by
  obtain ⟨e, h⟩ := gform n
  rw [e, Int.fdiv_eq_ediv_of_nonneg _ (by decide)]
  rfl
theorem good_post {n : Int} (x : Addr) (t u : Tok) (c : Nat) {g : Str} {v : Int} (h : g = one (goodOf (gi n)).1 ∧ v = ((goodOf (gi n)).2 : Int)) : GoodPost n [(x, ({ cls := .type "tuple", data := .seq #[.str g t, .int v u] c } : Obj))] (.ref x) := by
  obtain ⟨rfl, rfl⟩ := h
  exact ⟨x, t, u, c, rfl, rfl⟩
theorem g0 {n : Int} (h : ((n.fdiv 132).fmod 364).fmod 14 = 0) : Str.ofString "\"" = one (goodOf (gi n)).1 ∧ (34 : Int) = ((goodOf (gi n)).2 : Int) := by
  rw [gFm] at h
  unfold goodOf
  rw [if_pos (by omega)]
  exact ⟨by decide, rfl⟩
theorem g1 {n : Int} (h : ((n.fdiv 132).fmod 364).fmod 14 = 1) : (⟨#[(97 + ((n.fdiv 132).fmod 364).fdiv 14).toNat]⟩ : Str) = one (goodOf (gi n)).1 ∧ 97 + ((n.fdiv 132).fmod 364).fdiv 14 = ((goodOf (gi n)).2 : Int) := by
  rw [gFm] at h
  rw [gLt]
  unfold goodOf
  rw [if_neg (by omega), if_pos (by omega)]
  refine ⟨?_, by simp only [Int.natCast_add]; rfl⟩
  unfold one
  congr 2
theorem g2 {n : Int} (h : ((n.fdiv 132).fmod 364).fmod 14 = 2) : (⟨#[(65 + ((n.fdiv 132).fmod 364).fdiv 14).toNat]⟩ : Str) = one (goodOf (gi n)).1 ∧ 97 + ((n.fdiv 132).fmod 364).fdiv 14 = ((goodOf (gi n)).2 : Int) := by
  rw [gFm] at h
  rw [gLt]
  unfold goodOf
  rw [if_neg (by omega), if_neg (by omega), if_pos (by omega)]
  refine ⟨?_, by simp only [Int.natCast_add]; rfl⟩
  unfold one
  congr 2
theorem menu_int : ∀ j < 12, ([831, 834, 8205, 8208, 8233, 8239, 8297, 8304, 64975, 65008, 65533, 65536] : List Int).getD j 0 = (([831, 834, 8205, 8208, 8233, 8239, 8297, 8304, 64975, 65008, 65533, 65536] : List Nat).getD j 0 : Int) := by decide
theorem menu_int2 : ∀ j < 10, ([0, 1, 2, 4, 7, 8, 9, 10, 11, 12] : List Int).getD j 0 = (([0, 1, 2, 4, 7, 8, 9, 10, 11, 12] : List Nat).getD j 0 : Int) := by decide
theorem g13 {n : Int} (h : ((n.fdiv 132).fmod 364).fmod 14 = 13) : (⟨#[(([831, 834, 8205, 8208, 8233, 8239, 8297, 8304, 64975, 65008, 65533, 65536] : List Int).getD ((((n.fdiv 132).fmod 364).fdiv 14).fmod 12).toNat 0).toNat]⟩ : Str) = one (goodOf (gi n)).1 ∧
    ([831, 834, 8205, 8208, 8233, 8239, 8297, 8304, 64975, 65008, 65533, 65536] : List Int).getD ((((n.fdiv 132).fmod 364).fdiv 14).fmod 12).toNat 0 = ((goodOf (gi n)).2 : Int) := by
  rw [gFm] at h
  rw [gLt, Int.fmod_eq_emod_of_nonneg _ (by decide)]
  have e : (((gi n / 14 : Nat) : Int) % 12).toNat = gi n / 14 % 12 := by omega
  rw [e, menu_int _ (Nat.mod_lt _ (by decide))]
  unfold goodOf
  rw [if_neg (by omega), if_neg (by omega), if_neg (by omega), if_pos (by omega)]
  exact ⟨rfl, rfl⟩
theorem gm {n : Int} (h0 : ((n.fdiv 132).fmod 364).fmod 14 ≠ 0) (h1 : ((n.fdiv 132).fmod 364).fmod 14 ≠ 1) (h2 : ((n.fdiv 132).fmod 364).fmod 14 ≠ 2) (h3 : ((n.fdiv 132).fmod 364).fmod 14 ≠ 13) :
    (⟨#[(119808 + 52 * ([0, 1, 2, 4, 7, 8, 9, 10, 11, 12] : List Int).getD (((n.fdiv 132).fmod 364).fmod 14 - 3).toNat 0 + ((n.fdiv 132).fmod 364).fdiv 14).toNat]⟩ : Str) = one (goodOf (gi n)).1 ∧
    97 + ((n.fdiv 132).fmod 364).fdiv 14 = ((goodOf (gi n)).2 : Int) := by
  rw [gFm] at h0 h1 h2 h3 ⊢
  rw [gLt]
  have e : (((gi n % 14 : Nat) : Int) - 3).toNat = gi n % 14 - 3 := by omega
  rw [e, menu_int2 _ (by omega)]
  unfold goodOf
  rw [if_neg (by omega), if_neg (by omega), if_neg (by omega), if_neg (by omega)]
  refine ⟨?_, by simp only [Int.natCast_add]; rfl⟩
  unfold one
  congr 2
theorem linesC2_1 : True := by
  k_with "call builtin:chr" => first | (with_unfolding_all refine chr_of_range (menuG _).1 (menuG _).2 ?_) | (with_unfolding_all refine chr_of_range (chr5 _ _).1 (chr5 _ _).2 ?_)
  trivial
set_option maxRecDepth 100000 in
set_option maxHeartbeats 8000000 in
theorem C_good (w : World) (mean : ExcName → Option Value) (mg mb : Str → Option Value) (n : Int) (t : Tok) :
  Ct w mean mg mb 159 [.int n t] (fun _ _ => True) (GoodPost n) := by
  unfold Ct
  intro dp un gd cn cs a ccd cl outer A₀ base h₀ L m news s Q E B F X N T hk pre hd hu ret
  refine wpAny_call ?_
  k_dflt cell_enter
  k_steps
  all_goals (rename News h₀ L _ _ => zN; rename Fr h₀ L _ _ => zF)
  all_goals exact ret _ _ _ _ zF (news_sub (l' := [_] ++ news) zN (by
    intro p hp
    rcases List.mem_cons.mp hp with rfl | hp
    · exact .head _
    · first | exact .tail _ (.tail _ hp) | exact .tail _ (.tail _ (.tail _ hp)))) (lt_one (by first | assumption | exact allLt_mem (And.right (by assumption)) | exact allLt_mem (And.right (And.right (by assumption))))) (good_post _ _ _ _ (by first | exact g0 (by assumption) | exact g1 (by assumption) | exact g2 (by assumption) | exact g13 (by assumption) | exact gm (by assumption) (by assumption) (by assumption) (by assumption)))
theorem linesC2_end : True := by
  k_with_none
  trivial
end Mine
end
section
open PySem PySem.W PyProof.Rows
namespace Mine
noncomputable def StrPost (g : Str) (tl : Led) (r : Value) : Prop := tl = [] ∧ ∃ t, r = .str g t
noncomputable def IntPost (g : Int) (tl : Led) (r : Value) : Prop := tl = [] ∧ ∃ t, r = .int g t
noncomputable def BoolPost (g : Bool) (tl : Led) (r : Value) : Prop := tl = [] ∧ r = .bool g
theorem int_post {g v : Int} {t : Tok} (h : v = g) : IntPost g [] (.int v t) := ⟨rfl, t, by rw [h]⟩
theorem str_post {g v : Str} {t : Tok} (h : v = g) : StrPost g [] (.str v t) := ⟨rfl, t, by rw [h]⟩
theorem cc0 {k : Nat} {p : Int} (h : ((k : Int).fdiv 64).fmod 2 = 0) : (k : Int).fmod 64 = codesOf k p := by
  rw [Int.fdiv_eq_ediv_of_nonneg _ (by decide), Int.fmod_eq_emod_of_nonneg _ (by decide)] at h
  unfold codesOf
  rw [if_pos (by omega), Int.fmod_eq_emod_of_nonneg _ (by decide)]
theorem cc1 {k : Nat} {p : Int} (h : ((k : Int).fdiv 64).fmod 2 ≠ 0) : (k : Int).fmod 64 * 64 + p = codesOf k p := by
  rw [Int.fdiv_eq_ediv_of_nonneg _ (by decide), Int.fmod_eq_emod_of_nonneg _ (by decide)] at h
  unfold codesOf
  rw [if_neg (by omega), Int.fmod_eq_emod_of_nonneg _ (by decide)]
set_option maxRecDepth 100000 in
set_option maxHeartbeats 8000000 in
theorem C_codes (w : World) (mean : ExcName → Option Value) (mg mb : Str → Option Value) (k : Nat) (p : Int) (t u : Tok) :
  Ct w mean mg mb 166 [.str (one k) t, .int p u] (fun _ _ => 0 ≤ p ∧ p < 5) (IntPost (codesOf k p)) := by
  unfold Ct one
  intro dp un gd cn cs a ccd cl outer A₀ base h₀ L m news s Q E B F X N T hk pre hd hu ret
  refine wpAny_call ?_
  k_dflt cell_enter
  k_steps
  all_goals (rename News h₀ L _ _ => zN; rename Fr h₀ L _ _ => zF)
  all_goals exact ret _ [] _ _ zF zN lt_nil (int_post (by first | exact cc0 (by assumption) | exact cc1 (by assumption)))
noncomputable abbrev tmenu : List Int := [832, 833, 8206, 8207] ++ rangeInts 8234 1 (8239 - 8234 : Int).toNat ++ rangeInts 8298 1 (8304 - 8298 : Int).toNat
theorem tmenu_all : ∀ i < 15, 0 ≤ tmenu.getD i 0 ∧ tmenu.getD i 0 ≤ 1114111 := by decide
theorem tmenu_b (i : Nat) : 0 ≤ tmenu.getD i 0 ∧ tmenu.getD i 0 ≤ 1114111 := by
  by_cases h : i < 15
  · exact tmenu_all i h
  · have hl : tmenu.length = 15 := by decide
    rw [List.getD_eq_getElem?_getD, List.getElem?_eq_none (by omega)]
    decide
theorem tform (n : Int) : ((n.fdiv 2).fmod 66) = (ti n : Int) ∧ ti n < 66 := by
  unfold ti
  rw [Int.fdiv_eq_ediv_of_nonneg _ (by decide), Int.fmod_eq_emod_of_nonneg _ (by decide)]
  omega
theorem pform (n : Int) : n.fmod 2 = (pi n : Int) ∧ pi n < 2 := by
  unfold pi
  rw [Int.fmod_eq_emod_of_nonneg _ (by decide)]
  omega
theorem tmenu_int : ∀ j < 15, tmenu.getD j 0 = (([832, 833, 8206, 8207, 8234, 8235, 8236, 8237, 8238, 8298, 8299, 8300, 8301, 8302, 8303] : List Nat).getD j 0 : Int) := by decide
theorem t0 {n : Int} (h : n.fmod 2 = 0) : (⟨#[(tmenu.getD (((n.fdiv 2).fmod 66).fmod 15).toNat 0).toNat]⟩ : Str) = one (turnOf (pi n) (ti n)) := by
  obtain ⟨e, hp⟩ := pform n
  rw [(tform n).1, Int.fmod_eq_emod_of_nonneg _ (by decide)]
  have e2 : ((ti n : Int) % 15).toNat = ti n % 15 := by omega
  rw [e2, tmenu_int _ (Nat.mod_lt _ (by decide))]
  unfold turnOf
  rw [if_pos (by omega)]
  rfl
theorem t1 {n : Int} (h : n.fmod 2 ≠ 0) (h2 : (n.fdiv 2).fmod 66 < 32) : (⟨#[(64976 + (n.fdiv 2).fmod 66).toNat]⟩ : Str) = one (turnOf (pi n) (ti n)) := by
  obtain ⟨e, hp⟩ := pform n
  rw [(tform n).1] at h2 ⊢
  unfold turnOf
  rw [if_neg (by omega), if_pos (by omega)]
  unfold one
  congr 2
theorem t2 {n : Int} (h : n.fmod 2 ≠ 0) (h2 : ¬ (n.fdiv 2).fmod 66 < 32) : (⟨#[(65536 * (((n.fdiv 2).fmod 66).fdiv 2 - 16) + 65534 + ((n.fdiv 2).fmod 66).fmod 2).toNat]⟩ : Str) = one (turnOf (pi n) (ti n)) := by
  obtain ⟨e, hp⟩ := pform n
  have := (tform n).2
  rw [(tform n).1] at h2 ⊢
  rw [Int.fdiv_eq_ediv_of_nonneg _ (by decide), Int.fmod_eq_emod_of_nonneg _ (by decide)]
  have e3 : (65536 * ((ti n : Int) / 2 - 16) + 65534 + (ti n : Int) % 2).toNat = 65536 * (ti n / 2 - 16) + 65534 + ti n % 2 := by omega
  rw [e3]
  unfold turnOf
  rw [if_neg (by omega), if_neg (by omega)]
  rfl
theorem linesC3_1 : True := by
  k_with "binaryOp Add ref ref" => (k_here; (with_reducible show wpAny _ _ (binaryOp _ (Value.ref _) (Value.ref _)) _ _ _); k_dflt (refine' kmk_add_ints (by w_strict (k_asm)) (by w_strict (k_asm)) (by w_strict (first | kmk_list | assumption)) (by w_strict (first | kmk_list | assumption)) (by w_strict (first | assumption | l_ints | (exact IntsAre.ofCarried (by assumption)))) (by w_strict (exact IntsAre.ofCarried (by assumption))) ?_ (by w_strict (first | kmk_sum | decide))); intro _ _ _ _ _ l1 _; (try k_lt l1); (try k_sweep))
  k_with "call builtin:chr" => (with_unfolding_all refine chr_of_range (tmenu_b _).1 (tmenu_b _).2 ?_)
  trivial
set_option maxRecDepth 100000 in
set_option maxHeartbeats 8000000 in
theorem C_turn (w : World) (mean : ExcName → Option Value) (mg mb : Str → Option Value) (n : Int) (t : Tok) :
  Ct w mean mg mb 152 [.int n t] (fun _ _ => True) (StrPost (one (turnOf (pi n) (ti n)))) := by
  unfold Ct
  intro dp un gd cn cs a ccd cl outer A₀ base h₀ L m news s Q E B F X N T hk pre hd hu ret
  refine wpAny_call ?_
  k_dflt cell_enter
  k_steps
  all_goals (rename News h₀ L _ _ => zN; rename Fr h₀ L _ _ => zF)
  · exact ret _ [] _ _ zF (news_sub (l' := news) zN (fun p hp => .tail _ (.tail _ (.tail _ hp)))) lt_nil (str_post (t0 (by assumption)))
  · exact ret _ [] _ _ zF zN lt_nil (str_post (t1 (by assumption) (by assumption)))
  · exact ret _ [] _ _ zF zN lt_nil (str_post (t2 (by assumption) (by assumption)))
theorem linesC3_end : True := by
  k_with_none
  trivial
end Mine
end
section
open PySem PySem.W PyProof.Rows
namespace Mine
noncomputable abbrev c8s : List Int := [832, 833, 8234, 8235, 8236, 8237, 8206, 8207, 8238, 8298, 8299, 8300, 8301, 8302, 8303]
noncomputable abbrev c8o (led : Bool) : Obj := ⟨(.type "set"), none, (.set #[(832, (.int 832 2257)), (833, (.int 833 2258)), (8234, (.int 8234 2266)), (8235, (.int 8235 2267)), (8236, (.int 8236 2268)), (8237, (.int 8237 2269)), (8206, (.int 8206 2259)), (8207, (.int 8207 2260)), (8238, (.int 8238 2270)), (8298, (.int 8298 2276)), (8299, (.int 8299 2277)), (8300, (.int 8300 2278)), (8301, (.int 8301 2279)), (8302, (.int 8302 2280)), (8303, (.int 8303 2281))] 16 ⟨31, #[0, 1, 10, 11, 12, 13, 14, 15, 16, 17, 18, 19, 20, 21, 22], #[], 0, led, 1, true⟩), #[]⟩
theorem c8_wit {es : List (Int × Value)} {prog : Program} {w : World} {k : Int} (h : es.any (fun e => Value.isInt k e.2) = true) : ∃ e ∈ es, (intKind prog w).is k e.2 = true := by
  obtain ⟨e, he, h⟩ := List.any_eq_true.mp h
  exact ⟨e, he, h⟩
theorem c8_set (prog : Program) (w : World) (led : Bool) : (c8o led).SetObjOf (intKind prog w) (fun k => decide (k ∈ c8s)) 15 := by
  refine ⟨⟨rfl, rfl, rfl⟩, _, _, _, rfl, ?_, ?_, rfl, by cases led <;> rfl⟩
  · intro e he
    simp only [List.mem_cons, List.not_mem_nil, or_false] at he
    rcases he with rfl | rfl | rfl | rfl | rfl | rfl | rfl | rfl | rfl | rfl | rfl | rfl | rfl | rfl | rfl <;> exact ⟨⟨_, intKind_is _ _ _ _, rfl⟩, rfl⟩
  · intro k
    rw [decide_eq_true_iff]
    constructor
    · intro h
      simp only [c8s, List.mem_cons, List.not_mem_nil, or_false] at h
      rcases h with rfl | rfl | rfl | rfl | rfl | rfl | rfl | rfl | rfl | rfl | rfl | rfl | rfl | rfl | rfl
      all_goals exact c8_wit (by decide +kernel)
    · rintro ⟨e, he, hk⟩
      obtain ⟨t, ht⟩ := Value.isInt_shape hk
      simp only [List.mem_cons, List.not_mem_nil, or_false] at he
      rcases he with rfl | rfl | rfl | rfl | rfl | rfl | rfl | rfl | rfl | rfl | rfl | rfl | rfl | rfl | rfl <;> (injection ht with h1 h2; subst h1; decide)
theorem c8_look (P : Params) : (K P).lookup 128 = some (c8o (!P.followText "set-order")) := by kernel_rfl
theorem c8_in {w : World} {A : Around} {E : Value → Shared → Prop} {s : Shared} {h₀ : Heap} {L : Addr} {m : Str → Option Value} {k : Int} {t : Tok} {Q : Value → Shared → Prop} (F : Fr h₀ L s.heap m) (X : (K w.params).In h₀)
    (h : Q (.bool (decide (k ∈ c8s))) { s with toks := s.toks + 1 }) : wpAny (model PySem.Challenge.pw_wk0036_01 w) A (compareOp .In (.int k t) (.ref 128)) Q E s :=
  in_argsetI F (c8_set _ w (!w.params.followText "set-order")) (X _ _ (c8_look _)) (by decide) h
theorem linesC4_1 : True := by
  k_with "compareOp In int ref" => (k_here; refine c8_in (by assumption) (by assumption) ?_)
  trivial
set_option maxRecDepth 100000 in
set_option maxHeartbeats 8000000 in
theorem C_c8 (w : World) (mean : ExcName → Option Value) (mg mb : Str → Option Value) (k : Nat) (t : Tok) :
  Ct w mean mg mb 138 [.str (one k) t] (fun _ _ => True) (BoolPost (decide ((k : Int) ∈ c8s))) := by
  unfold Ct one
  intro dp un gd cn cs a ccd cl outer A₀ base h₀ L m news s Q E B F X N T hk pre hd hu ret
  refine wpAny_call ?_
  k_dflt cell_enter
  k_steps
  all_goals (rename News h₀ L _ _ => zN; rename Fr h₀ L _ _ => zF)
  all_goals exact ret _ [] _ _ zF zN lt_nil ⟨rfl, rfl⟩
theorem c4_last {k : Nat} (h : 65008 ≤ k) : (([65534, 65535] : List Int).any fun x => x == Builtin.bitAnd (k : Int) 65535) = decide (64976 ≤ k ∧ (k < 65008 ∨ k % 65536 = 65534 ∨ k % 65536 = 65535)) := by
  rw [bitAnd_m16, Bool.eq_iff_iff, decide_eq_true_iff]
  simp only [List.any_cons, List.any_nil, Bool.or_false, Bool.or_eq_true, beq_iff_eq]
  omega
set_option maxRecDepth 100000 in
set_option maxHeartbeats 8000000 in
theorem C_c4 (w : World) (mean : ExcName → Option Value) (mg mb : Str → Option Value) (k : Nat) (t : Tok) :
  Ct w mean mg mb 114 [.str (one k) t] (fun _ _ => k < 1114112) (BoolPost (decide (64976 ≤ k ∧ (k < 65008 ∨ k % 65536 = 65534 ∨ k % 65536 = 65535)))) := by
  unfold Ct one
  intro dp un gd cn cs a ccd cl outer A₀ base h₀ L m news s Q E B F X N T hk pre hd hu ret
  refine wpAny_call ?_
  k_dflt cell_enter
  k_steps
  all_goals (rename News _ _ _ _ => zN; rename Fr _ _ _ _ => zF)
  · exact ret _ [] _ _ (by assumption) (by assumption) lt_nil ⟨rfl, by congr 1; rw [eq_comm, decide_eq_false_iff_not]; omega⟩
  · exact ret _ [] _ _ (by assumption) (by assumption) lt_nil ⟨rfl, by congr 1; rw [eq_comm, decide_eq_true_iff]; omega⟩
  · exact ret _ [] _ _ zF (news_sub (l' := news) zN (fun p hp => .tail _ hp)) lt_nil ⟨rfl, by congr 1; exact c4_last (by omega)⟩
theorem linesC4_end : True := by
  k_with_none
  trivial
end Mine
end
section
open PySem PySem.W PyProof.Rows PySem.Calls PySem.Spec
namespace Mine
/-- a contract whose call may turn or drop what the ledger holds -/
noncomputable def CtM (w : World) (mean : ExcName → Option Value) (mg mb : Str → Option Value) (f : Addr) (vs : List Value) (news : Led) (Pre : Prop) (Post : Led → Value → Prop) : Prop :=
  ∀ (dp un : Nat) (gd : Option (List Code)) (cn : Str) (cs : Scope) (a : Addr) (ccd : Value) (cl : List (Str × Addr)) (outer : List Env) (A₀ : Around) (base h₀ : Heap) (L : Addr) (m : Str → Option Value) (s : Shared) (Q E : Value → Shared → Prop),
    Below A₀ base outer h₀ → Fr h₀ L s.heap m → (K w.params).In h₀ → News h₀ L s.heap news → Top vw (looseW vw looseN) mean mg mb h₀ → cs.kind = .function → Pre → dp + 10 < recursionLimit → un + 100 < cLine →
    (∀ r out h' tk', Fr h₀ L h' m → News h₀ L h' out → Post out r → Q r { s with heap := h', toks := tk' }) →
    wpAny (model PySem.Challenge.pw_wk0036_01 w) (ktrTop dp un gd cn cs L a ccd cl outer) (call (.ref f) vs) Q E s
noncomputable abbrev liter (l : Addr) (i : Nat) : Obj := { cls := .type "list_iterator", data := .fields #[.ref l, .int i 0] }
section
variable {prog : Program} {w : World} {A : Around} {E : Value → Shared → Prop} {s : Shared} {h₀ : Heap} {L : Addr} {m : Str → Option Value} {news : Led}
theorem li_iter {l : Addr} {vs : Array Value} {n : Nat} {Q : Value → Shared → Prop} (F : Fr h₀ L s.heap m) (N : News h₀ L s.heap news) (hm : (l, PySem.W.listOf vs n) ∈ news)
    (h : ∀ (I : Addr) h', Fr h₀ L h' m → News h₀ L h' ((I, liter l 0) :: news) → (∀ p ∈ news, p.1 < I) → Q (.ref I) { s with heap := h' }) :
    wpAny (model prog w) A (call (.builtin "iter") [.ref l]) Q E s := by
  have hl : s.heap.IsList l vs := ⟨_, (N _ hm).1, rfl, n, rfl⟩
  refine call_function_entry (by decide +kernel) (by decide +kernel) kdk_entry_iter (kdk_args_iter _) ?_
  unfold Builtin.«iter»
  refine wpAny_bind (m := someArgs "iter" 1 2 _) (wpAny_of_eq (a := [Value.ref l]) (by first | rfl | kernel_rfl!) ?_)
  show wpAny _ _ (pyIter (.ref l) >>= _) _ _ _
  refine wpAny_bind (wpAny_pyIter_list hl ?_)
  exact wpAny_pure ⟨_, rfl, h _ _ (F.push _) (News.push F N _ rfl) (fun q hq => Heap.lt_size (N q hq).1)⟩
theorem li_special {I l : Addr} {i : Nat} {vs : Array Value} {x : Value} {Q : Option Value → Shared → Prop} (ho : s.heap.get? I = some (liter l i)) (hl : s.heap.IsList l vs) (hx : vs[i]? = some x)
    (hQ : ∀ h', h'.get? I = some (liter l (i + 1)) → Heap.SameBut I s.heap h' → Q (some x) { s with heap := h' }) :
    wpAny (model prog w) A (callSpecial? (.ref I) (Str.ofString "__next__")) Q E s := by
  have hit : s.heap.IsListIter I l i := ⟨_, ho, rfl, rfl⟩
  obtain ⟨ol, hol, _, nl, hdl⟩ := hl
  refine wpAny_callSpecial?_slot (name := Str.ofString "__next__") hit.typeIs slot_listiter_next
    (wpAny_call_entry slot_listiter_next hit.typeIs entry_listiter_next ?_ (args_listiter_next _))
  have hd : (liter l i).data = .fields #[.ref l, .int i 0] := rfl
  show wpAny _ _ (field (.ref I) 0 >>= _) _ _ s
  refine wpAny_bind (wpAny_field ho hd (x := .ref l) rfl ?_)
  show wpAny _ _ (if (Value.ref l == Value.none) = true then _ else _) _ _ s
  rw [if_neg (show ¬ ((Value.ref l == Value.none) = true) from Bool.false_ne_true)]
  show wpAny _ _ (field (.ref I) 1 >>= _) _ _ s
  refine wpAny_bind (wpAny_field ho hd (x := .int i 0) rfl ?_)
  show wpAny _ _ (seqItems? (.ref l) >>= _) _ _ s
  refine wpAny_bind (wpAny_seqItems hol hdl ?_)
  simp only [Int.toNat_natCast, hx]
  refine wpAny_bind (wpAny_setField ho hd (by simp) (wpAny_pure ⟨x, rfl, hQ _ ?_ (Heap.SameBut.update ..)⟩))
  exact Heap.get?_update_self _ ho rfl
theorem li_next {I l : Addr} {i : Nat} {vs : Array Value} {n : Nat} {x : Value} {Q : Value → Shared → Prop} (F : Fr h₀ L s.heap m) (N : News h₀ L s.heap ((I, liter l i) :: news)) (hm : (l, PySem.W.listOf vs n) ∈ news) (hx : vs[i]? = some x) (hap : ∀ p ∈ news, p.1 ≠ I)
    (h : ∀ h', Fr h₀ L h' m → News h₀ L h' ((I, liter l (i + 1)) :: news) → Q x { s with heap := h' }) :
    wpAny (model prog w) A (call (.builtin "next") [.ref I]) Q E s := by
  have hI := N _ (.head _)
  have hl : s.heap.IsList l vs := ⟨_, (N _ (.tail _ hm)).1, rfl, n, rfl⟩
  have hit : s.heap.IsListIter I l i := ⟨_, hI.1, rfl, rfl⟩
  refine call_function_entry (by decide +kernel) (by decide +kernel) kdk_entry_next (kdk_args_next _) ?_
  unfold Builtin.«next»
  refine wpAny_bind (m := someArgs "next" 1 2 _) (wpAny_of_eq (a := [Value.ref I]) (by first | rfl | kernel_rfl!) ?_)
  dsimp only
  refine wpAny_bind (wpAny_specialOf (name := Str.ofString "__next__") hit.typeIs slot_listiter_next.lookup ?_)
  refine wpAny_ite_split (fun hab => absurd hab (by decide)) (fun _ => ?_)
  refine wpAny_bind (li_special hI.1 hl hx fun h' ho' hs => ?_)
  exact wpAny_pure ⟨_, rfl, h h' (F.change hs hI.2.1 hI.2.2) (News.setIn (show News h₀ L s.heap ([] ++ (I, liter l i) :: news) from N) (fun p hp => absurd hp (List.not_mem_nil)) hap hs ho')⟩
theorem li_next0 {I l : Addr} {n : Nat} {a b : Value} {Q : Value → Shared → Prop} (F : Fr h₀ L s.heap m) (N : News h₀ L s.heap ((I, liter l 0) :: (l, PySem.W.listOf #[a, b] n) :: news)) (hap : ∀ p ∈ (l, PySem.W.listOf #[a, b] n) :: news, p.1 ≠ I)
    (h : ∀ h', Fr h₀ L h' m → News h₀ L h' ((I, liter l 1) :: (l, PySem.W.listOf #[a, b] n) :: news) → Q a { s with heap := h' }) :
    wpAny (model prog w) A (call (.builtin "next") [.ref I]) Q E s := li_next (x := a) F N (.head _) rfl hap h
theorem li_next1 {I l : Addr} {n : Nat} {a b : Value} {Q : Value → Shared → Prop} (F : Fr h₀ L s.heap m) (N : News h₀ L s.heap ((I, liter l 1) :: (l, PySem.W.listOf #[a, b] n) :: news)) (hap : ∀ p ∈ (l, PySem.W.listOf #[a, b] n) :: news, p.1 ≠ I)
    (h : ∀ h', Fr h₀ L h' m → News h₀ L h' ((I, liter l 2) :: (l, PySem.W.listOf #[a, b] n) :: news) → Q b { s with heap := h' }) :
    wpAny (model prog w) A (call (.builtin "next") [.ref I]) Q E s := li_next (x := b) F N (.head _) rfl hap h
end
theorem whlif_cases {b : Bool} {T F : Prop} (h1 : b = true → T) (h2 : b = false → F) : WhlIf b T F := by
  cases b with
  | false => exact WhlIf.no rfl (h2 rfl)
  | true => exact WhlIf.yes rfl (h1 rfl)
theorem va_shl (k : Int) : (Builtin.bitAnd k 63).natAbs < 2 ^ 64 := by
  have := bitAnd_range k (y := 63) (by decide)
  omega
theorem va_bit {k : Nat} : (Builtin.bitAnd (k : Int) 64 != 0) = decide (k / 64 % 2 = 1) := by
  have := kbt_bit (k : Int) 6
  rw [show ((2 : Int) ^ 6) = 64 by decide] at this
  rw [this, Bool.eq_iff_iff, decide_eq_true_iff, bne_iff_ne]
  omega
theorem va_p {p : Int} (h0 : 0 ≤ p) (h1 : p < 5) : (Builtin.bitAnd p 64 != 0) = false := by
  have : p = 0 ∨ p = 1 ∨ p = 2 ∨ p = 3 ∨ p = 4 := by omega
  rcases this with rfl | rfl | rfl | rfl | rfl <;> decide
theorem va_or {a p : Int} (h0 : 0 ≤ p) (h1 : p < 5) : Builtin.bitOr (a * 2 ^ Int.toNat 6) (Builtin.bitAnd p 63) = a * 64 + p := by
  rw [show ((2 : Int) ^ Int.toNat 6) = 64 by decide, bitAnd_m6, bitOr_and]
  have e0 : p % 64 = p := by omega
  rw [e0]
  have k : Builtin.bitAnd (a * 64) p = 0 := by
    have hh : ∀ x y : Int, Builtin.bitAnd (2 * x) y = 2 * Builtin.bitAnd x (y / 2) := fun x y => by
      rw [kbt_halves, if_neg (by omega)]
      have : 2 * x / 2 = x := by omega
      rw [this]; omega
    have e : a * 64 = 2 * (2 * (2 * (a * 8))) := by omega
    rw [e, hh, hh, hh]
    have : p / 2 / 2 / 2 = 0 := by omega
    rw [this, bitAnd_comm]
    have z : ∀ x : Int, Builtin.bitAnd 0 x = 0 := fun x => by
      have := bitAnd_range x (y := 0) (by decide)
      rw [bitAnd_comm]; omega
    rw [z]; rfl
  rw [k]; omega
theorem va_end {k : Nat} {p x : Int} (h0 : 0 ≤ p) (h1 : p < 5) (hb : (Builtin.bitAnd (k : Int) 64 != 0) = true) (hx : x = Builtin.bitOr (Builtin.bitAnd (k : Int) 63 * 2 ^ Int.toNat 6) (Builtin.bitAnd p 63)) : x = codesOf k p := by
  rw [va_bit, decide_eq_true_iff] at hb
  rw [hx, va_or h0 h1, bitAnd_m6]
  unfold codesOf
  rw [if_neg (by omega)]
theorem va_end0 {k : Nat} {p x : Int} (hb : (Builtin.bitAnd (k : Int) 64 != 0) = false) (hx : x = Builtin.bitAnd (k : Int) 63) : x = codesOf k p := by
  rw [va_bit, decide_eq_false_iff_not] at hb
  rw [hx, bitAnd_m6]
  unfold codesOf
  rw [if_pos (by omega)]
theorem linesC5_1 : True := by
  k_with "inplaceOp LShift int int" => (refine ilshift_int_small (by decide) (by decide) (va_shl _) ?_)
  k_with "exec While" => (k_here; k_dflt (refine whl_start 4 ?_))
  k_with "exec While BinOp cons nil" => (k_here; k_dflt (refine whl_start 4 ?_))
  k_with "WhlIf" => first | (refine WhlIf.no (va_p (by assumption) (by assumption)) ?_) | (refine whlif_cases ?_ ?_ <;> intro _)
  k_with "call builtin:next" => (k_here; first | (refine li_next0 (by assumption) (by assumption) (by assumption) ?_; intro h' F' N') | (refine li_next1 (by assumption) (by assumption) (by assumption) ?_; intro _ _ _))
  trivial
set_option maxRecDepth 100000 in
set_option maxHeartbeats 8000000 in
theorem C_varint (w : World) (mean : ExcName → Option Value) (mg mb : Str → Option Value) (k : Nat) (p : Int) (t u : Tok) (I l : Addr) (n : Nat) (news : Led) :
  CtM w mean mg mb 29 [.ref I] ((I, liter l 0) :: (l, PySem.W.listOf #[.int k t, .int p u] n) :: news) ((k < 1114112 ∧ 0 ≤ p ∧ p < 5) ∧ ∀ q ∈ (l, PySem.W.listOf #[.int k t, .int p u] n) :: news, q.1 ≠ I) (fun out r => out = news ∧ ∃ t, r = .int (codesOf k p) t) := by
  unfold CtM
  intro dp un gd cn cs a ccd cl outer A₀ base h₀ L m s Q E B F X N T hk pre hd hu ret
  obtain ⟨⟨p1, p2, p3⟩, p4⟩ := pre
  refine wpAny_call ?_
  k_dflt cell_enter
  k_steps
  all_goals (rename News _ _ _ _ => zN; rename Fr _ _ _ _ => zF; rename (Builtin.bitAnd _ 64 != 0) = _ => zb)
  · exact ret _ news _ _ zF (news_sub (l' := news) zN (fun p hp => .tail _ (.tail _ hp))) ⟨rfl, _, congrArg (Value.int · _) (va_end p2 p3 zb rfl)⟩
  · exact ret _ news _ _ zF (news_sub (l' := news) zN (fun p hp => .tail _ (.tail _ hp))) ⟨rfl, _, congrArg (Value.int · _) (va_end0 zb rfl)⟩
theorem linesC5_end : True := by
  k_with_none
  trivial
end Mine
end
section
open PySem PySem.W PyProof.Rows PySem.Calls PySem.Spec
namespace Mine
theorem b3_look (P : Params) : (K P).lookup 62 = some ⟨.type "dict", none, .dict b3ents.toArray 650, #[]⟩ := by kernel_rfl
/-- what the table says of a code -/
noncomputable def b3say (k : Nat) : Option Str := (b3rows.find? fun r => r.1 == (k : Int)).map (·.2.1)
theorem find_ents {k : Int} : ∀ (l : List Row) (t : Nat), (∀ e, ((ents l t).find? fun e => Value.isInt k e.key) = some e → ∃ u x, (l.find? fun r => r.1 == k).map (·.2.1) = some x ∧ e.val = .str x u) ∧ (((ents l t).find? fun e => Value.isInt k e.key) = none → (l.find? fun r => r.1 == k) = none)
  | [], _ => ⟨fun e h => by simp [ents] at h, fun _ => rfl⟩
  | r :: l, t => by
    have ih := find_ents (k := k) l (t + 3)
    have eh : Value.isInt k (entL r t).key = (r.1 == k) := by
      show (r.1 == k) = (r.1 == k)
      rfl
    unfold ents
    rw [List.find?_cons, List.find?_cons, eh]
    cases h : (r.1 == k) with
    | true => exact ⟨fun e he => by injection he with he; subst he; exact ⟨_, _, rfl, rfl⟩, fun he => nomatch he⟩
    | false => exact ih
theorem find_entsS {k : Int} : ∀ (l : List Row) (t : Nat), (∀ e, ((entsS l t).find? fun e => Value.isInt k e.key) = some e → ∃ u x, (l.find? fun r => r.1 == k).map (·.2.1) = some x ∧ e.val = .str x u) ∧ (((entsS l t).find? fun e => Value.isInt k e.key) = none → (l.find? fun r => r.1 == k) = none)
  | [], _ => ⟨fun e h => by simp [entsS] at h, fun _ => rfl⟩
  | r :: l, t => by
    have ih := find_entsS (k := k) l (t + 2)
    have eh : Value.isInt k (entL r t).key = (r.1 == k) := by
      show (r.1 == k) = (r.1 == k)
      rfl
    unfold entsS
    rw [List.find?_cons, List.find?_cons, eh]
    cases h : (r.1 == k) with
    | true => exact ⟨fun e he => by injection he with he; subst he; exact ⟨_, _, rfl, rfl⟩, fun he => nomatch he⟩
    | false => exact ih
theorem b3rows_eq : b3rows = (b3first ++ b3mid.flatten) ++ b3last := by kernel_rfl
noncomputable def sayV : Option Str → Option Value → Prop
  | some x, some v => ∃ u, v = .str x u
  | none, none => True
  | _, _ => False
theorem b3_find (k : Nat) : sayV (b3say k) (findBy Value.isInt b3ents.toArray (k : Int)) := by
  unfold b3say findBy b3ents
  rw [b3rows_eq]
  generalize b3first ++ b3mid.flatten = X
  generalize b3last = Y
  rw [List.find?_toArray, List.find?_append, List.find?_append]
  have i1 := find_ents (k := (k : Int)) X 290
  have i2 := find_entsS (k := (k : Int)) Y 2228
  cases h1 : (ents X 290).find? fun e => Value.isInt (k : Int) e.key with
  | some e =>
    obtain ⟨u, x, hx, hv⟩ := i1.1 e h1
    cases h3 : X.find? fun r => r.1 == (k : Int) with
    | none => rw [h3] at hx; cases hx
    | some r =>
      rw [h3] at hx
      injection hx with hx
      exact ⟨u, by subst hx; exact hv⟩
  | none =>
    rw [i1.2 h1]
    cases h2 : (entsS Y 2228).find? fun e => Value.isInt (k : Int) e.key with
    | some e =>
      obtain ⟨u, x, hx, hv⟩ := i2.1 e h2
      cases h3 : Y.find? fun r => r.1 == (k : Int) with
      | none => rw [h3] at hx; cases hx
      | some r =>
        rw [h3] at hx
        injection hx with hx
        exact ⟨u, by subst hx; exact hv⟩
    | none =>
      rw [i2.2 h2]
      trivial
theorem keys_ents : ∀ (l : List Row) (t : Nat), ∀ e ∈ ents l t, ∃ k, Value.isInt k e.key = true ∧ e.hash = hashInt k
  | [], _, e, h => by simp [ents] at h
  | r :: l, t, e, h => by
    unfold ents at h
    rcases List.mem_cons.mp h with rfl | h
    · exact ⟨r.1, by simp [entL, Value.isInt], rfl⟩
    · exact keys_ents l _ e h
theorem keys_entsS : ∀ (l : List Row) (t : Nat), ∀ e ∈ entsS l t, ∃ k, Value.isInt k e.key = true ∧ e.hash = hashInt k
  | [], _, e, h => by simp [entsS] at h
  | r :: l, t, e, h => by
    unfold entsS at h
    rcases List.mem_cons.mp h with rfl | h
    · exact ⟨r.1, by simp [entL, Value.isInt], rfl⟩
    · exact keys_entsS l _ e h
theorem b3_map {w : World} {s : Shared} {h₀ : Heap} {L : Addr} {m : Str → Option Value} (F : Fr h₀ L s.heap m) (X : (K w.params).In h₀) : s.heap.MapOf (intKind PySem.Challenge.pw_wk0036_01 w) 62 (findBy Value.isInt b3ents.toArray) := by
  refine ⟨_, b3ents.toArray, 650, F.keep _ _ (X _ _ (b3_look _)), ⟨rfl, rfl, rfl⟩, rfl, ?_, fun k => rfl⟩
  intro e he
  have he' : e ∈ b3ents := List.mem_toArray.mp he
  unfold b3ents at he'
  rcases List.mem_append.mp he' with h | h
  · exact keys_ents _ _ e h
  · exact keys_entsS _ _ e h
section
variable {w : World} {A : Around} {E : Value → Shared → Prop} {s : Shared} {h₀ : Heap} {L : Addr} {m : Str → Option Value}
theorem b3_method {pl : Sem Bool} {Q : Value × List Value → Shared → Prop} (F : Fr h₀ L s.heap m) (X : (K w.params).In h₀) (h : Q (.builtin "dict.get", [.ref 62]) s) :
    wpAny (model PySem.Challenge.pw_wk0036_01 w) A (getMethod (.ref 62) "get" pl) Q E s :=
  getMethod_builtin (b3_map F X).typeIs PySem.F.plainAttrs_dict PySem.F.slot_dict_get PySem.F.type_dict_get (b3_map F X).noDict h
theorem b3_get {k : Nat} {t : Tok} {Q : Value → Shared → Prop} (F : Fr h₀ L s.heap m) (X : (K w.params).In h₀)
    (h1 : ∀ x u, b3say k = some x → Q (.str x u) { s with toks := s.toks + 1 }) (h2 : b3say k = none → Q .none { s with toks := s.toks + 1 }) :
    wpAny (model PySem.Challenge.pw_wk0036_01 w) A (call (.builtin "dict.get") [.ref 62, .int (k : Int) t]) Q E s := by
  refine call_meetsIn PySem.F.slot_dict_get (b3_map F X).typeIs PySem.F.entry_dict_get (PySem.F.args_dict_get_2 _ _) (meets_dict_get (intKind _ w) 62 (intKind_is _ _ _ _) (by decide)) ⟨_, b3_map F X, ?_⟩
  have hs := b3_find k
  cases h3 : b3say k with
  | some x =>
    rw [h3] at hs
    cases h4 : findBy Value.isInt b3ents.toArray (k : Int) with
    | some v =>
      rw [h4] at hs
      obtain ⟨u, rfl⟩ := hs
      exact h1 x u h3
    | none => rw [h4] at hs; exact hs.elim
  | none =>
    rw [h3] at hs
    cases h4 : findBy Value.isInt b3ents.toArray (k : Int) with
    | some v => rw [h4] at hs; exact hs.elim
    | none => exact h2 h3
end
/-! the same by the table's pieces of 17 rows, each with its least and its greatest key -/
noncomputable def b3bds : List (Nat × Nat) := [(181, 981), (982, 8064), (8065, 8081), (8082, 8098), (8099, 8118), (8119, 8166), (8167, 8465), (8466, 8497), (8499, 13195), (13196, 13242), (13243, 13273), (13274, 119809), (119810, 119826), (119827, 119869), (119870, 119912), (119913, 119929), (119930, 119979), (119980, 120023), (120024, 120040), (120041, 120087), (120088, 120134), (120138, 120181), (120182, 120224), (120225, 120241), (120242, 120284), (120285, 120301), (120328, 120344), (120345, 120387), (120388, 120404), (120405, 120447), (120448, 120494), (120495, 120511), (120512, 120560), (120561, 120609), (120610, 120626), (120627, 120675), (120676, 120724), (120725, 120741), (120742, 120763)]
noncomputable def b3chunks : List (List Row) := b3first :: (b3mid ++ [b3last])
noncomputable def fitB : List (Nat × Nat) → List (List Row) → Bool
  | [], [] => true
  | b :: bs, c :: cs => (c.all fun r => decide ((b.1 : Int) ≤ r.1) && decide (r.1 ≤ (b.2 : Int))) && fitB bs cs
  | _, _ => false
noncomputable def findB (k : Nat) : List (Nat × Nat) → List (List Row) → Option Row
  | b :: bs, c :: cs => match Nat.ble b.1 k && Nat.ble k b.2 with
    | true => match c.find? fun r => r.1 == (k : Int) with
      | some x => some x
      | none => findB k bs cs
    | false => findB k bs cs
  | _, _ => none
theorem findB_eq {k : Nat} : ∀ (bs : List (Nat × Nat)) (cs : List (List Row)), fitB bs cs = true → findB k bs cs = cs.flatten.find? fun r => r.1 == (k : Int)
  | [], [], _ => rfl
  | b :: bs, c :: cs, h => by
    unfold fitB at h
    obtain ⟨h1, h2⟩ := Bool.and_eq_true_iff.mp h
    have ih := findB_eq (k := k) bs cs h2
    rw [List.flatten_cons, List.find?_append]
    unfold findB
    cases hb : Nat.ble b.1 k && Nat.ble k b.2 with
    | true =>
      dsimp only
      cases hc : c.find? fun r => r.1 == (k : Int) with
      | some x => rfl
      | none => exact ih
    | false =>
      dsimp only
      have hc : (c.find? fun r => r.1 == (k : Int)) = none := by
        rw [List.find?_eq_none]
        intro r hr he
        have e : r.1 = (k : Int) := eq_of_beq he
        have h3 := List.all_eq_true.mp h1 r hr
        obtain ⟨h4, h5⟩ := Bool.and_eq_true_iff.mp h3
        have h6 := of_decide_eq_true h4
        have h7 := of_decide_eq_true h5
        rw [e] at h6 h7
        rw [Nat.ble_eq_true_of_le (Int.ofNat_le.mp h6), Nat.ble_eq_true_of_le (Int.ofNat_le.mp h7)] at hb
        exact absurd hb (by decide)
      rw [hc]
      exact ih
  | [], _ :: _, h => nomatch h
  | _ :: _, [], h => nomatch h
theorem b3_fits : fitB b3bds b3chunks = true := by decide +kernel
theorem b3say_eq (k : Nat) : b3say k = (findB k b3bds b3chunks).map (·.2.1) := by
  unfold b3say
  rw [b3rows_eq, findB_eq _ _ b3_fits]
  unfold b3chunks
  rw [List.flatten_cons, List.flatten_append, List.flatten_singleton, List.append_assoc]
noncomputable def b3ok (i : Nat) : Bool := match (findB (goodOf i).1 b3bds b3chunks).map (·.2.1) with
  | some x => decide (x = one (goodOf i).2)
  | none => decide (Txt.lower (one (goodOf i).1) = one (goodOf i).2)
theorem b3_all : (List.range 364).all b3ok = true := by decide +kernel
theorem b3_some {i : Nat} {x : Str} (hi : i < 364) (h : b3say (goodOf i).1 = some x) : x = one (goodOf i).2 := by
  have := List.all_eq_true.mp b3_all i (List.mem_range.mpr hi)
  unfold b3ok at this
  rw [← b3say_eq, h] at this
  exact of_decide_eq_true this
theorem b3_none {i : Nat} (hi : i < 364) (h : b3say (goodOf i).1 = none) : Txt.lower (one (goodOf i).1) = one (goodOf i).2 := by
  have := List.all_eq_true.mp b3_all i (List.mem_range.mpr hi)
  unfold b3ok at this
  rw [← b3say_eq, h] at this
  exact of_decide_eq_true this
end Mine
end
section
open PySem PySem.W PyProof.Rows PySem.Calls PySem.Spec
namespace Mine
theorem linesC6_1 : True := by
  k_with "call builtin:str.lower" => (with_unfolding_all refine SCL.lower (show (1 : Nat) ≤ 5592405 by decide) ?_; intro _)
  k_with "getMethod ref" => (k_here; refine b3_method (by assumption) (by assumption) ?_)
  k_with "call builtin:dict.get" => (k_here; refine b3_get (by assumption) (by assumption) (fun x' u' hx' => ?_) (fun hx' => ?_))
  trivial
set_option maxRecDepth 100000 in
set_option maxHeartbeats 8000000 in
theorem C_map (w : World) (mean : ExcName → Option Value) (mg mb : Str → Option Value) (i : Nat) (t : Tok) :
  Ct w mean mg mb 107 [.str (one (goodOf i).1) t] (fun _ _ => i < 364) (StrPost (one (goodOf i).2)) := by
  unfold Ct
  have e1 : one (goodOf i).1 = ⟨#[(goodOf i).1]⟩ := rfl
  intro dp un gd cn cs a ccd cl outer A₀ base h₀ L m news s Q E B F X N T hk pre hd hu ret
  have s1 := fun x => b3_some (x := x) pre
  have s2 := b3_none pre
  rw [e1] at s2 ⊢
  generalize one (goodOf i).2 = g at *
  generalize (goodOf i).1 = k at *
  refine wpAny_call ?_
  k_dflt cell_enter
  k_steps
  all_goals (rename News h₀ L _ _ => zN; rename Fr h₀ L _ _ => zF)
  · exact ret _ [] _ _ zF zN lt_nil (str_post (s1 _ (by assumption)))
  · exact ret _ [] _ _ zF zN lt_nil (str_post (s2 (by assumption)))
theorem linesC6_end : True := by
  k_with_none
  trivial
end Mine
end
section
open PySem PySem.W PyProof.Rows PySem.Spec
set_option maxRecDepth 100000
namespace Mine
/-! loops by an invariant over frame and ledger; the target may be a cell -/
noncomputable abbrev JT := Nat → (Str → Option Value) → Led → Prop
/-- the end of a turn: what the loop holds (keep) stands, J holds of what follows -/
noncomputable def TEnd (h₀ : Heap) (L I : Addr) (keep : Led) (J : (Str → Option Value) → Led → Prop) (s₁ : Shared) (f : Flow) (s₂ : Shared) : Prop :=
  f = .next ∧ ∃ h' tk m' news' nx, s₂ = { s₁ with heap := h', toks := tk } ∧ Fr h₀ L h' m' ∧ News h₀ L h' news' ∧ (∀ p ∈ keep, p ∈ news') ∧ (∀ p ∈ nx, p ∈ news') ∧ (∀ p ∈ nx, p.1 ≠ I) ∧ J m' nx
theorem TEnd.intro {h₀ : Heap} {L I : Addr} {keep : Led} {J : (Str → Option Value) → Led → Prop} {s₁ : Shared} {h' : Heap} {tk : Nat} {m' : Str → Option Value} {news' : Led} (nx : Led)
    (F : Fr h₀ L h' m') (N : News h₀ L h' news') (hk : ∀ p ∈ keep, p ∈ news') (hn : ∀ p ∈ nx, p ∈ news') (hI : ∀ p ∈ nx, p.1 ≠ I) (hJ : J m' nx) : TEnd h₀ L I keep J s₁ .next { s₁ with heap := h', toks := tk } :=
  ⟨rfl, h', tk, m', news', nx, rfl, F, N, hk, hn, hI, hJ⟩
section
variable {prog : Program} {w : World} {A : Around} {E : Value → Shared → Prop} {s : Shared} {env : Env} {h₀ : Heap} {target : Expr} {body : List Stmt} {Q : Flow → Shared → Prop}
/-- what a turn is to show -/
noncomputable def Turn (prog : Program) (w : World) (A : Around) (E : Value → Shared → Prop) (env : Env) (h₀ : Heap) (target : Expr) (body : List Stmt) (I : Addr) (kp : Led) (n : Nat) (P : Nat → Value → Prop) (J : JT) : Prop :=
  ∀ i v m₁ nx (s : Shared) oI, i < n → P i v → (∀ p ∈ nx, p.1 ≠ I) → J i m₁ nx → Fr h₀ env.locals s.heap m₁ → News h₀ env.locals s.heap ((I, oI) :: nx) →
    wpAny (model prog w) A (assign target env v) (fun _ s₃ => wpAny (model prog w) A (execs body env) (TEnd h₀ env.locals I ((I, oI) :: kp) (J (i + 1)) s) E s₃) E s
theorem ft_core {I : Addr} {fp : List Addr} {n : Nat} {P : Nat → Value → Prop} {St : Nat → Heap → Prop} {m₀ : Str → Option Value} {news kp : Led} (J : JT)
    (W : Walks prog w A I fp [I] n P St) (hob : ∀ i h, St i h → ∃ o, h.get? I = some o) (hLf : env.locals ∉ fp) (hI0 : h₀.get? I = none) (hnI : ∀ p ∈ news, p.1 ≠ I)
    (hkp : ∀ a ∈ fp, a = I ∨ (h₀.get? a = none → ∃ o, (a, o) ∈ kp)) (hst : St 0 s.heap) (F : Fr h₀ env.locals s.heap m₀) (N : News h₀ env.locals s.heap news) (hj : J 0 m₀ news)
    (hkJ : ∀ i m₁ nx, J i m₁ nx → ∀ p ∈ kp, p ∈ nx)
    (hgo : ∀ v, letOwnedTupleGo target (.ref I) v = pure ())
    (turn : Turn prog w A E env h₀ target body I kp n P J)
    (done : ∀ m₁ nx h tk, J n m₁ nx → Fr h₀ env.locals h m₁ → News h₀ env.locals h nx → Q .next { s with heap := h, toks := tk }) :
    LoopAtT prog w A h₀ env target body Q E (.ref I) s := by
  refine ⟨I, fp, [I], n, P, St, m₀, news, J, rfl, W, hLf, fun b hb => by rw [List.mem_singleton.mp hb]; exact hI0, fun p hp hm => hnI p hp (List.mem_singleton.mp hm), hst, F, N, ?_, hj, ?_, ?_⟩
  · intro i s' v Q' _ hQ'
    rw [hgo]
    exact wpAny_pure hQ'
  · rintro i v m₁ nx s₁ own hin hP hJ hoff hown hown2 hmem hst' F₁ N₁
    obtain ⟨oI, hoI⟩ := hob _ _ hst'
    have hIf : I ∈ fp := W.sub I (.head _)
    have hIown : (I, oI) ∈ own := hmem I hIf hI0 oI hoI
    have hnx : ∀ p ∈ nx, p.1 ≠ I := fun p hp e => hoff p hp (List.mem_singleton.mpr e)
    have N₂ : News h₀ env.locals s₁.heap ((I, oI) :: nx) := fun p hp => by
      rcases List.mem_cons.mp hp with rfl | hp
      · exact N₁ _ (List.mem_append.mpr (.inl hIown))
      · exact N₁ _ (List.mem_append.mpr (.inr hp))
    refine wpAny_mono (turn i v m₁ nx s₁ oI hin hP hnx hJ F₁ N₂) (fun _ s₃ p₃ => wpAny_mono p₃ (fun f s₂ q => ?_) fun _ _ e => e) fun _ _ e => e
    obtain ⟨rfl, h', tk', m', news', nx', rfl, F', N', hk, hn, hI', hJ'⟩ := q
    refine ⟨rfl, h', tk', m', nx', rfl, F', fun p hp => ?_, fun p hp hm => hI' p hp (List.mem_singleton.mp hm), hJ'⟩
    rcases List.mem_append.mp hp with hp | hp
    · have hg := hown2 p hp
      rcases hkp p.1 (hown p hp) with e | e
      · have : p = (I, oI) := by
          obtain ⟨a, o⟩ := p
          have ea : a = I := e
          have hg' : s₁.heap.get? I = some o := by rw [← ea]; exact hg
          rw [hoI] at hg'
          injection hg' with e2
          rw [ea, e2]
        rw [this]
        exact N' _ (hk _ (.head _))
      · have hz := (N₁ p (List.mem_append.mpr (.inl hp))).2.2
        obtain ⟨o, ho⟩ := e hz
        have hnxm := hkJ _ _ _ hJ _ ho
        have hg2 : s₁.heap.get? p.1 = some o := (N₁ _ (List.mem_append.mpr (.inr hnxm))).1
        have hg3 : s₁.heap.get? p.1 = some p.2 := hg
        rw [hg2] at hg3
        injection hg3 with e
        have : p = (p.1, o) := by rw [e]
        rw [this]
        exact N' _ (hk _ (.tail _ ho))
    · exact N' p (hn p hp)
  · intro h' tk m' news' F' N' _ hJ
    exact done m' news' h' tk hJ F' N'
set_option maxHeartbeats 1600000 in
theorem ft_range {r : Addr} {a₀ b₀ : Int} {t₀ u₀ v₀ : Tok} {n : Nat} {m₀ : Str → Option Value} {news : Led} (J : JT)
    (hh : A.handled = none) (hr : IsRange s.heap r a₀ b₀ 1 t₀ u₀ v₀) (hsmall : Builtin.Range.small a₀ b₀ 1 = true) (hsz : Builtin.Range.rangeSize a₀ b₀ 1 = (n : Int)) (F : Fr h₀ env.locals s.heap m₀) (N : News h₀ env.locals s.heap news) (hj : J 0 m₀ news)
    (hgo : ∀ I v, letOwnedTupleGo target (.ref I) v = pure ())
    (turn : ∀ I, (∀ p ∈ news, p.1 < I) → Turn prog w A E env h₀ target body I [] n (fun i v => ∃ t, v = .int (a₀ + (i : Int)) t) J)
    (done : ∀ m₁ nx h tk, J n m₁ nx → Fr h₀ env.locals h m₁ → News h₀ env.locals h nx → Q .next { s with heap := h, toks := tk }) :
    wpAny (model prog w) A (pyIter (.ref r)) (fun it s₂ => LoopAtT prog w A h₀ env target body Q E it s₂) E s := by
  refine wpAny_pyIter_range hr hsmall ?_
  have hI0 : h₀.get? s.heap.objs.size = none := next_is_new F
  refine ft_core (kp := []) (news := news) J (Walks.range hh s.heap.objs.size a₀ 1 n) (fun _ _ st => ⟨_, st⟩) ?_ hI0 ?_ ?_ ?_ (F.push _) (fun p hp => ⟨Heap.get?_push_of_some _ (N p hp).1, (N p hp).2⟩) hj (fun _ _ _ _ p hp => nomatch hp) (hgo _) ?_ (fun m₁ nx h tk => done m₁ nx h tk)
  · intro hm
    exact absurd F.ns.lt ((List.mem_singleton.mp hm) ▸ Nat.lt_irrefl _)
  · intro p hp e
    exact absurd (Heap.lt_size (N p hp).1) (by rw [e]; exact Nat.lt_irrefl _)
  · intro a ha
    exact .inl (List.mem_singleton.mp ha)
  · show IsRangeIter _ _ _ _ _
    rw [hsz]
    simpa using Heap.get?_push_size _ rfl
  · intro i v m₁ nx s₁ oI hin hP hnI hJ F' N'
    obtain ⟨t, e⟩ := hP
    exact turn s.heap.objs.size (fun p hp => Heap.lt_size (N p hp).1) i v m₁ nx s₁ oI hin ⟨t, by simpa using e⟩ hnI hJ F' N'
set_option maxHeartbeats 1600000 in
theorem ft_list {l : Addr} {vs : Array Value} {c : Nat} {m₀ : Str → Option Value} {news : Led} (J : JT)
    (hh : A.handled = none) (F : Fr h₀ env.locals s.heap m₀) (N : News h₀ env.locals s.heap news) (hm : (l, PySem.W.listOf vs c) ∈ news) (hj : J 0 m₀ news)
    (hkJ : ∀ i m₁ nx, J i m₁ nx → (l, PySem.W.listOf vs c) ∈ nx)
    (hgo : ∀ I v, letOwnedTupleGo target (.ref I) v = pure ())
    (turn : ∀ I, (∀ p ∈ news, p.1 < I) → Turn prog w A E env h₀ target body I [(l, PySem.W.listOf vs c)] vs.size (fun i v => vs[i]? = some v) J)
    (done : ∀ m₁ nx h tk, J vs.size m₁ nx → Fr h₀ env.locals h m₁ → News h₀ env.locals h nx → Q .next { s with heap := h, toks := tk }) :
    wpAny (model prog w) A (pyIter (.ref l)) (fun it s₂ => LoopAtT prog w A h₀ env target body Q E it s₂) E s := by
  have hl : s.heap.IsList l vs := ⟨_, (N _ hm).1, rfl, c, rfl⟩
  have hlt : l < s.heap.objs.size := Heap.lt_size (N _ hm).1
  refine wpAny_pyIter_list hl ?_
  have hI0 : h₀.get? s.heap.objs.size = none := next_is_new F
  refine ft_core (kp := [(l, PySem.W.listOf vs c)]) (news := news) J (Walks.list hh s.heap.objs.size l (Nat.ne_of_lt hlt) vs) (fun _ _ st => let ⟨⟨o, h, _⟩, _⟩ := st; ⟨o, h⟩) ?_ hI0 ?_ ?_ ?_ (F.push _) (fun p hp => ⟨Heap.get?_push_of_some _ (N p hp).1, (N p hp).2⟩) hj (fun i m₁ nx hJ p hp => by rw [List.mem_singleton.mp hp]; exact hkJ i m₁ nx hJ) (hgo _) ?_ (fun m₁ nx h tk => done m₁ nx h tk)
  · intro hm'
    rcases List.mem_cons.mp hm' with e | e
    · exact absurd F.ns.lt (e ▸ Nat.lt_irrefl _)
    · have e := List.mem_singleton.mp e
      exact (N _ hm).2.1 e.symm
  · intro p hp e
    exact absurd (Heap.lt_size (N p hp).1) (by rw [e]; exact Nat.lt_irrefl _)
  · intro a ha
    rcases List.mem_cons.mp ha with e | e
    · exact .inl e
    · rw [List.mem_singleton.mp e]
      exact .inr fun _ => ⟨_, .head _⟩
  · exact ⟨⟨_, Heap.get?_push_size _ rfl, rfl, rfl⟩, hl.at fun o e => Heap.get?_push_of_some _ e⟩
  · intro i v m₁ nx s₁ oI hin hP hnI hJ F' N'
    exact turn s.heap.objs.size (fun p hp => Heap.lt_size (N p hp).1) i v m₁ nx s₁ oI hin hP hnI hJ F' N'
set_option maxHeartbeats 1600000 in
theorem ft_str {x : Str} {t₀ : Tok} {m₀ : Str → Option Value} {news : Led} (J : JT)
    (hh : A.handled = none) (F : Fr h₀ env.locals s.heap m₀) (N : News h₀ env.locals s.heap news) (hj : J 0 m₀ news)
    (hgo : ∀ I v, letOwnedTupleGo target (.ref I) v = pure ())
    (turn : ∀ I, (∀ p ∈ news, p.1 < I) → Turn prog w A E env h₀ target body I [] x.cps.size (SignAt x) J)
    (done : ∀ m₁ nx h tk, J x.cps.size m₁ nx → Fr h₀ env.locals h m₁ → News h₀ env.locals h nx → Q .next { s with heap := h, toks := tk }) :
    wpAny (model prog w) A (pyIter (.str x t₀)) (fun it s₂ => LoopAtT prog w A h₀ env target body Q E it s₂) E s := by
  have hI0 : h₀.get? s.heap.objs.size = none := next_is_new F
  have h1 : env.locals ∉ [s.heap.objs.size] := fun hm => absurd F.ns.lt ((List.mem_singleton.mp hm) ▸ Nat.lt_irrefl _)
  have h2 : ∀ p ∈ news, p.1 ≠ s.heap.objs.size := fun p hp e => absurd (Heap.lt_size (N p hp).1) (by rw [e]; exact Nat.lt_irrefl _)
  have h3 : ∀ a ∈ [s.heap.objs.size], a = s.heap.objs.size ∨ (h₀.get? a = none → ∃ o, (a, o) ∈ ([] : Led)) := fun a ha => .inl (List.mem_singleton.mp ha)
  cases ha : x.cps.all (· < 128)
  · refine wpAny_pyIter_wide ha ?_
    exact ft_core (kp := []) (news := news) J (Walks.strWide hh s.heap.objs.size x t₀) (fun _ _ st => let ⟨o, h, _⟩ := st; ⟨o, h⟩) h1 hI0 h2 h3 ⟨_, Heap.get?_push_size _ rfl, rfl, rfl⟩ (F.push _) (fun p hp => ⟨Heap.get?_push_of_some _ (N p hp).1, (N p hp).2⟩) hj (fun _ _ _ _ p hp => nomatch hp) (hgo _)
      (fun i v m₁ nx s₁ oI => turn s.heap.objs.size (fun p hp => Heap.lt_size (N p hp).1) i v m₁ nx s₁ oI) (fun m₁ nx h tk => done m₁ nx h tk)
  · refine wpAny_pyIter_ascii ha ?_
    exact ft_core (kp := []) (news := news) J (Walks.strAscii hh s.heap.objs.size x t₀) (fun _ _ st => let ⟨o, h, _⟩ := st; ⟨o, h⟩) h1 hI0 h2 h3 ⟨_, Heap.get?_push_size _ rfl, rfl, rfl⟩ (F.push _) (fun p hp => ⟨Heap.get?_push_of_some _ (N p hp).1, (N p hp).2⟩) hj (fun _ _ _ _ p hp => nomatch hp) (hgo _)
      (fun i v m₁ nx s₁ oI => turn s.heap.objs.size (fun p hp => Heap.lt_size (N p hp).1) i v m₁ nx s₁ oI) (fun m₁ nx h tk => done m₁ nx h tk)
end
end Mine
end
section
open PySem PySem.W PyProof.Rows PySem.Spec
set_option maxRecDepth 100000
namespace Mine
/-! the same with a state c: the names ps c (all else of the frame is forgotten), the ledger Led c, facts -/
section
variable {σ : Type}
theorem fr_pick {h₀ h : Heap} {L : Addr} {m : Str → Option Value} (ps : List (Str × Value)) (F : Fr h₀ L h m) (h1 : ∀ p ∈ ps, m p.1 = some p.2) : Fr h₀ L h (kstB m ps) := by
  have e : kstB m ps = m := funext fun y => kstB_eq h1 fun _ => rfl
  rw [e]; exact F
theorem fr_forget {h₀ h : Heap} {L : Addr} {m : Str → Option Value} (ps : List (Str × Value)) (F : Fr h₀ L h m) (h1 : ∀ p ∈ ps, m p.1 = some p.2) : ∃ u, Fr h₀ L h (kstB u ps) := ⟨m, fr_pick ps F h1⟩
noncomputable def JS (ps : σ → List (Str × Value)) (Led : σ → List (Addr × Obj)) (Facts : Nat → σ → Prop) : JT := fun i m nx =>
  ∃ c : σ, nx = Led c ∧ Facts i c ∧ ∀ p ∈ ps c, m p.1 = some p.2
/-- a turn's end over states -/
noncomputable def TS (ps : σ → List (Str × Value)) (Led : σ → List (Addr × Obj)) (F1 : σ → Prop) (h₀ : Heap) (L I : Addr) (keep : List (Addr × Obj)) (s₁ : Shared) (f : Flow) (s₂ : Shared) : Prop :=
  f = .next ∧ ∃ h' tk m' news' c, s₂ = { s₁ with heap := h', toks := tk } ∧ Fr h₀ L h' m' ∧ News h₀ L h' news' ∧ (∀ p ∈ keep, p ∈ news') ∧ (∀ p ∈ Led c, p ∈ news') ∧ (∀ p ∈ Led c, p.1 ≠ I) ∧ (∀ p ∈ ps c, m' p.1 = some p.2) ∧ F1 c
theorem TS.intro {ps : σ → List (Str × Value)} {Led : σ → List (Addr × Obj)} {F1 : σ → Prop} {h₀ : Heap} {L I : Addr} {keep : List (Addr × Obj)} {s₁ : Shared} {h' : Heap} {tk : Nat} {m' : Str → Option Value} {news' : List (Addr × Obj)} (c : σ)
    (F : Fr h₀ L h' m') (N : News h₀ L h' news') (hk : ∀ p ∈ keep, p ∈ news') (hn : ∀ p ∈ Led c, p ∈ news') (hI : ∀ p ∈ Led c, p.1 ≠ I) (h1 : ∀ p ∈ ps c, m' p.1 = some p.2) (hf : F1 c) :
    TS ps Led F1 h₀ L I keep s₁ .next { s₁ with heap := h', toks := tk } := ⟨rfl, h', tk, m', news', c, rfl, F, N, hk, hn, hI, h1, hf⟩
variable {prog : Program} {w : World} {A : Around} {E : Value → Shared → Prop} {s : Shared} {env : Env} {h₀ : Heap} {target : Expr} {body : List Stmt} {Q : Flow → Shared → Prop} {m₀ : Str → Option Value} {news : Led}
noncomputable def TurnS (prog : Program) (w : World) (A : Around) (E : Value → Shared → Prop) (env : Env) (h₀ : Heap) (target : Expr) (body : List Stmt) (I : Addr) (kp : List (Addr × Obj)) (n : Nat) (P : Nat → Value → Prop) (ps : σ → List (Str × Value)) (Led : σ → List (Addr × Obj)) (Facts : Nat → σ → Prop) : Prop :=
  ∀ i v (c : σ) (u : Str → Option Value) (s : Shared) oI, i < n → P i v → (∀ p ∈ Led c, p.1 ≠ I) → Facts i c → Fr h₀ env.locals s.heap (kstB u (ps c)) → News h₀ env.locals s.heap ((I, oI) :: Led c) →
    wpAny (model prog w) A (assign target env v) (fun _ s₃ => wpAny (model prog w) A (execs body env) (TS ps Led (Facts (i + 1)) h₀ env.locals I ((I, oI) :: kp) s) E s₃) E s
theorem turn_of {I : Addr} {kp : List (Addr × Obj)} {n : Nat} {P : Nat → Value → Prop} {ps : σ → List (Str × Value)} {Led : σ → List (Addr × Obj)} {Facts : Nat → σ → Prop}
    (h : TurnS prog w A E env h₀ target body I kp n P ps Led Facts) : Turn prog w A E env h₀ target body I kp n P (JS ps Led Facts) := by
  rintro i v m₁ nx s oI hin hP hI ⟨c, rfl, hf, h1⟩ F N
  refine wpAny_mono (h i v c m₁ s oI hin hP hI hf (fr_pick _ F h1) N) (fun _ s₃ p => wpAny_mono p (fun f s₂ q => ?_) fun _ _ e => e) fun _ _ e => e
  obtain ⟨rfl, h', tk, m', news', c', rfl, F', N', hk, hn, hI', k1, hf'⟩ := q
  exact ⟨rfl, h', tk, m', news', Led c', rfl, F', N', hk, hn, hI', c', rfl, hf', k1⟩
noncomputable abbrev DoneS (env : Env) (h₀ : Heap) (s : Shared) (Q : Flow → Shared → Prop) (ps : σ → List (Str × Value)) (Led : σ → List (Addr × Obj)) (F1 : σ → Prop) : Prop :=
  ∀ (c : σ) (u : Str → Option Value) h tk, F1 c → Fr h₀ env.locals h (kstB u (ps c)) → News h₀ env.locals h (Led c) → Q .next { s with heap := h, toks := tk }
theorem fs_str {x : Str} {t₀ : Tok} (ps : σ → List (Str × Value)) (Led : σ → List (Addr × Obj)) (Facts : Nat → σ → Prop) (c₀ : σ)
    (hh : A.handled = none) (F : Fr h₀ env.locals s.heap m₀) (N : News h₀ env.locals s.heap news) (hn : ∀ p ∈ Led c₀, p ∈ news) (hps : ∀ p ∈ ps c₀, m₀ p.1 = some p.2) (hf : Facts 0 c₀)
    (hgo : ∀ I v, letOwnedTupleGo target (.ref I) v = pure ())
    (turn : ∀ I, (∀ p ∈ Led c₀, p.1 < I) → TurnS prog w A E env h₀ target body I [] x.cps.size (SignAt x) ps Led Facts)
    (done : DoneS env h₀ s Q ps Led (Facts x.cps.size)) :
    wpAny (model prog w) A (pyIter (.str x t₀)) (fun it s₂ => LoopAtT prog w A h₀ env target body Q E it s₂) E s := by
  refine ft_str (JS ps Led Facts) hh F (news := Led c₀) (fun p hp => N p (hn p hp)) ⟨c₀, rfl, hf, hps⟩ hgo (fun I hI => turn_of (turn I hI)) ?_
  rintro m₁ nx h tk ⟨c, rfl, hf, h1⟩ F' N'
  exact done c m₁ h tk hf (fr_pick _ F' h1) N'
theorem fs_range {r : Addr} {a₀ b₀ : Int} {t₀ u₀ v₀ : Tok} {n : Nat} (ps : σ → List (Str × Value)) (Led : σ → List (Addr × Obj)) (Facts : Nat → σ → Prop) (c₀ : σ)
    (hh : A.handled = none) (hr : IsRange s.heap r a₀ b₀ 1 t₀ u₀ v₀) (hsmall : Builtin.Range.small a₀ b₀ 1 = true) (hsz : Builtin.Range.rangeSize a₀ b₀ 1 = (n : Int)) (F : Fr h₀ env.locals s.heap m₀) (N : News h₀ env.locals s.heap news) (hn : ∀ p ∈ Led c₀, p ∈ news) (hps : ∀ p ∈ ps c₀, m₀ p.1 = some p.2) (hf : Facts 0 c₀)
    (hgo : ∀ I v, letOwnedTupleGo target (.ref I) v = pure ())
    (turn : ∀ I, (∀ p ∈ Led c₀, p.1 < I) → TurnS prog w A E env h₀ target body I [] n (fun i v => ∃ t, v = .int (a₀ + (i : Int)) t) ps Led Facts)
    (done : DoneS env h₀ s Q ps Led (Facts n)) :
    wpAny (model prog w) A (pyIter (.ref r)) (fun it s₂ => LoopAtT prog w A h₀ env target body Q E it s₂) E s := by
  refine ft_range (JS ps Led Facts) hh hr hsmall hsz F (news := Led c₀) (fun p hp => N p (hn p hp)) ⟨c₀, rfl, hf, hps⟩ hgo (fun I hI => turn_of (turn I hI)) ?_
  rintro m₁ nx h tk ⟨c, rfl, hf, h1⟩ F' N'
  exact done c m₁ h tk hf (fr_pick _ F' h1) N'
theorem fs_list {l : Addr} {vs : Array Value} {k : Nat} (ps : σ → List (Str × Value)) (Led : σ → List (Addr × Obj)) (Facts : Nat → σ → Prop) (c₀ : σ)
    (hh : A.handled = none) (F : Fr h₀ env.locals s.heap m₀) (N : News h₀ env.locals s.heap news) (hm : ∀ c, (l, PySem.W.listOf vs k) ∈ Led c) (hn : ∀ p ∈ Led c₀, p ∈ news) (hps : ∀ p ∈ ps c₀, m₀ p.1 = some p.2) (hf : Facts 0 c₀)
    (hgo : ∀ I v, letOwnedTupleGo target (.ref I) v = pure ())
    (turn : ∀ I, (∀ p ∈ Led c₀, p.1 < I) → TurnS prog w A E env h₀ target body I [(l, PySem.W.listOf vs k)] vs.size (fun i v => vs[i]? = some v) ps Led Facts)
    (done : DoneS env h₀ s Q ps Led (Facts vs.size)) :
    wpAny (model prog w) A (pyIter (.ref l)) (fun it s₂ => LoopAtT prog w A h₀ env target body Q E it s₂) E s := by
  refine ft_list (JS ps Led Facts) hh F (news := Led c₀) (fun p hp => N p (hn p hp)) (hm c₀) ⟨c₀, rfl, hf, hps⟩ (fun i m₁ nx hJ => ?_) hgo (fun I hI => turn_of (turn I hI)) ?_
  · obtain ⟨c, rfl, _⟩ := hJ
    exact hm c
  · rintro m₁ nx h tk ⟨c, rfl, hf, h1⟩ F' N'
    exact done c m₁ h tk hf (fr_pick _ F' h1) N'
end
end Mine
end
section
open PySem PySem.W PyProof.Rows PySem.Spec
set_option maxRecDepth 100000
namespace Mine
/-! a loop with break and else, over a range -/
section
variable {σ : Type}
/-- a turn's end: next as TS; a break leaves the loop -/
noncomputable def BS (ps : σ → List (Str × Value)) (Led : σ → List (Addr × Obj)) (F1 : σ → Prop) (h₀ : Heap) (L I : Addr) (oI : Obj) (s₁ : Shared) (Q : Flow → Shared → Prop) (f : Flow) (s₂ : Shared) : Prop :=
  match f with
  | .next | .cont => ∃ h' tk m' news' c, s₂ = { s₁ with heap := h', toks := tk } ∧ Fr h₀ L h' m' ∧ News h₀ L h' news' ∧ (I, oI) ∈ news' ∧ (∀ p ∈ Led c, p ∈ news') ∧ (∀ p ∈ Led c, p.1 ≠ I) ∧ (∀ p ∈ ps c, m' p.1 = some p.2) ∧ F1 c
  | .brk => Q .next s₂
  | .ret v => Q (.ret v) s₂
theorem BS.intro {ps : σ → List (Str × Value)} {Led : σ → List (Addr × Obj)} {F1 : σ → Prop} {h₀ : Heap} {L I : Addr} {oI : Obj} {s₁ : Shared} {Q : Flow → Shared → Prop} {h' : Heap} {tk : Nat} {m' : Str → Option Value} {news' : List (Addr × Obj)} (c : σ)
    (F : Fr h₀ L h' m') (N : News h₀ L h' news') (hk : (I, oI) ∈ news') (hn : ∀ p ∈ Led c, p ∈ news') (hI : ∀ p ∈ Led c, p.1 ≠ I) (h1 : ∀ p ∈ ps c, m' p.1 = some p.2) (hf : F1 c) :
    BS ps Led F1 h₀ L I oI s₁ Q .next { s₁ with heap := h', toks := tk } := ⟨h', tk, m', news', c, rfl, F, N, hk, hn, hI, h1, hf⟩
theorem BS.brk' {ps : σ → List (Str × Value)} {Led : σ → List (Addr × Obj)} {F1 : σ → Prop} {h₀ : Heap} {L I : Addr} {oI : Obj} {s₁ s₂ : Shared} {Q : Flow → Shared → Prop} (h : Q .next s₂) : BS ps Led F1 h₀ L I oI s₁ Q .brk s₂ := h
variable {prog : Program} {w : World} {A : Around} {E : Value → Shared → Prop} {s : Shared} {env : Env} {h₀ : Heap} {target : Expr} {body orelse : List Stmt} {Q : Flow → Shared → Prop} {m₀ : Str → Option Value} {news : Led}
/-- the loop at its iterator -/
noncomputable def LoopB (prog : Program) (w : World) (A : Around) (h₀ : Heap) (env : Env) (target : Expr) (body orelse : List Stmt) (Q : Flow → Shared → Prop) (E : Value → Shared → Prop) (it : Value) (s₂ : Shared) : Prop :=
  codeAny (model prog w) A (.forLoop target it body orelse env) (fun r s' => match r with | .ok f => Q f s' | .error e => cameBackBy (model prog w) A env E e s') s₂
theorem For_B {iter : Expr} {pos : Pos} {m : Str → Option Value} (_F : Fr h₀ env.locals s.heap m)
    (h : wpAny (model prog w) A (eval iter env) (fun xv s₁ => wpAny (model prog w) A (pyIter xv) (fun it s₂ => LoopB prog w A h₀ env target body orelse Q E it s₂) E s₁) E s)
    (hs : ∀ x, foldedSetIterable iter env x = pure x) :
    wpAny (model prog w) A (exec (.For target iter body orelse pos) env) Q E s := wpAny_For h hs
set_option maxHeartbeats 1600000 in
theorem fb_range {r : Addr} {a₀ b₀ : Int} {t₀ u₀ v₀ : Tok} {n : Nat} (ps : σ → List (Str × Value)) (Led : σ → List (Addr × Obj)) (Facts : Nat → σ → Prop) (c₀ : σ)
    (hh : A.handled = none) (hr : IsRange s.heap r a₀ b₀ 1 t₀ u₀ v₀) (hsmall : Builtin.Range.small a₀ b₀ 1 = true) (hsz : Builtin.Range.rangeSize a₀ b₀ 1 = (n : Int)) (F : Fr h₀ env.locals s.heap m₀) (N : News h₀ env.locals s.heap news) (hn : ∀ p ∈ Led c₀, p ∈ news) (hps : ∀ p ∈ ps c₀, m₀ p.1 = some p.2) (hf : Facts 0 c₀)
    (hgo : ∀ I v, letOwnedTupleGo target (.ref I) v = pure ())
    (turn : ∀ I i (c : σ) (u : Str → Option Value) h tk oI t, i < n → (∀ p ∈ Led c, p.1 ≠ I) → (∀ p ∈ Led c₀, p.1 < I) → Facts i c → Fr h₀ env.locals h (kstB u (ps c)) → News h₀ env.locals h ((I, oI) :: Led c) →
      wpAny (model prog w) A (assign target env (.int (a₀ + (i : Int)) t)) (fun _ s₃ => wpAny (model prog w) A (execs body env) (BS ps Led (Facts (i + 1)) h₀ env.locals I oI s Q) E s₃) E { s with heap := h, toks := tk })
    (done : ∀ (c : σ) (u : Str → Option Value) h tk, Facts n c → Fr h₀ env.locals h (kstB u (ps c)) → News h₀ env.locals h (Led c) → wpAny (model prog w) A (execs orelse env) Q E { s with heap := h, toks := tk })
    (hE : PassesOwn (model prog w) A env E := by passes_own) :
    wpAny (model prog w) A (pyIter (.ref r)) (fun it s₂ => LoopB prog w A h₀ env target body orelse Q E it s₂) E s := by
  refine wpAny_pyIter_range hr hsmall ?_
  have W := Walks.range (prog := prog) (w := w) hh s.heap.objs.size a₀ 1 n
  have hI0 : h₀.get? s.heap.objs.size = none := next_is_new F
  have hLI : env.locals ≠ s.heap.objs.size := Nat.ne_of_lt F.ns.lt
  have hltI : ∀ p ∈ Led c₀, p.1 < s.heap.objs.size := fun p hp => Heap.lt_size (N p (hn p hp)).1
  show codeAny _ _ _ _ _
  refine codeAny_forLoop_any
    (fun k s' => ∃ h' tk u i c, s' = { s with heap := h', toks := tk } ∧ IsRangeIter h' s.heap.objs.size (a₀ + (i : Nat) * 1) ((n : Int) - (i : Nat)) 1 ∧ Fr h₀ env.locals h' (kstB u (ps c)) ∧ News h₀ env.locals h' (Led c) ∧ (∀ p ∈ Led c, p.1 ≠ s.heap.objs.size) ∧ Facts i c ∧ i ≤ n ∧ k = n + 1 - i) ?_ (n + 1)
    ⟨_, s.toks, m₀, 0, c₀, rfl, ?_, fr_pick _ (F.push _) hps, (fun p hp => ⟨Heap.get?_push_of_some _ (N p (hn p hp)).1, (N p (hn p hp)).2⟩), (fun p hp e => absurd (hltI p hp) (by rw [e]; exact Nat.lt_irrefl _)), hf, Nat.zero_le _, rfl⟩
  · rintro k s' ⟨h', tk, u, i, c, rfl, hst', F', N', hne, hJ, hi, rfl⟩
    have next : ∀ h₁ : Heap, (∀ b o, b ∉ [s.heap.objs.size] → h'.get? b = some o → h₁.get? b = some o) → Fr h₀ env.locals h₁ (kstB u (ps c)) ∧ News h₀ env.locals h₁ (Led c) := fun h₁ hk₁ =>
      ⟨⟨F'.ns.at' fun o e => hk₁ _ o (fun hm => hLI (List.mem_singleton.mp hm)) e, fun b o e => hk₁ b o (fun hm => by rw [List.mem_singleton.mp hm, hI0] at e; cases e) (F'.keep b o e), F'.above⟩, fun p hp => ⟨hk₁ _ _ (fun hm => hne p hp (List.mem_singleton.mp hm)) (N' p hp).1, (N' p hp).2⟩⟩
    by_cases hlt : i < n
    · refine W.item i _ _ _ hlt hst' fun v h₁ tk₁ hP hst₁ hk₁ => ?_
      obtain ⟨F₁, N₁⟩ := next h₁ hk₁
      obtain ⟨t, e⟩ := hP
      have e' : v = .int (a₀ + (i : Int)) t := by rw [e, Int.mul_one]
      subst e'
      have hoI : ∃ oI, h₁.get? s.heap.objs.size = some oI := ⟨_, hst₁⟩
      obtain ⟨oI, hoI⟩ := hoI
      have N₂ : News h₀ env.locals h₁ ((s.heap.objs.size, oI) :: Led c) := fun p hp => by
        rcases List.mem_cons.mp hp with rfl | hp
        · exact ⟨hoI, fun e => hLI e.symm, hI0⟩
        · exact N₁ p hp
      dsimp only
      rw [hgo]
      refine wpAny_pure ?_
      refine wpAny_passesOwn hE (wpAny_mono (turn _ i c u h₁ tk₁ oI t hlt hne hltI hJ F₁ N₂) (fun _ s₃ p₃ => wpAny_passesOwn hE (wpAny_mono p₃ (fun f s₂ q => ?_) fun _ _ e => e)) fun _ _ e => e)
      have fin : ∀ s₂, (∃ h' tk m' news' c, s₂ = { s with heap := h', toks := tk } ∧ Fr h₀ env.locals h' m' ∧ News h₀ env.locals h' news' ∧ (s.heap.objs.size, oI) ∈ news' ∧ (∀ p ∈ Led c, p ∈ news') ∧ (∀ p ∈ Led c, p.1 ≠ s.heap.objs.size) ∧ (∀ p ∈ ps c, m' p.1 = some p.2) ∧ Facts (i + 1) c) →
          ∃ m, m < n + 1 - i ∧ ∃ h' tk u i c, s₂ = { s with heap := h', toks := tk } ∧ IsRangeIter h' s.heap.objs.size (a₀ + (i : Nat) * 1) ((n : Int) - (i : Nat)) 1 ∧ Fr h₀ env.locals h' (kstB u (ps c)) ∧ News h₀ env.locals h' (Led c) ∧ (∀ p ∈ Led c, p.1 ≠ s.heap.objs.size) ∧ Facts i c ∧ i ≤ n ∧ m = n + 1 - i := by
        rintro s₂ ⟨h', tk', m', news', c', rfl, F', N', hk, hn', hI', k1, hf'⟩
        refine ⟨n + 1 - (i + 1), by omega, h', tk', m', i + 1, c', rfl, ?_, fr_pick _ F' k1, fun p hp => N' p (hn' p hp), hI', hf', hlt, rfl⟩
        refine W.frame _ _ _ hst₁ fun b hb o e => ?_
        rw [List.mem_singleton.mp hb] at e ⊢
        rw [hoI] at e
        rw [← e]
        exact (N' _ hk).1
      cases f with
      | next => exact fin _ q
      | cont => exact fin _ q
      | brk => exact q
      | ret v => exact q
    · have hin : i = n := by omega
      subst hin
      refine W.done _ _ _ hst' fun h₁ tk₁ hk₁ => ?_
      obtain ⟨F₁, N₁⟩ := next h₁ hk₁
      exact wpAny_passesOwn hE (done c u h₁ tk₁ hJ F₁ N₁)
  · show IsRangeIter _ _ _ _ _
    rw [hsz]
    simpa using Heap.get?_push_size _ rfl
end
end Mine
end
section
open PySem PySem.W PyProof.Rows PySem.Spec
set_option maxRecDepth 100000
namespace Mine
/-! list comprehensions whose elements are no new objects, by what holds of the items so far -/
section
variable {prog : Program} {w : World} {A : Around} {s : Shared} {h₀ : Heap} {L : Addr} {m : Str → Option Value} {env : Env}
theorem rest_ind {elt : Expr} {x : Str} {scope : Scope} {cl : List (Str × Addr)} {S : Led → Prop} {P : Nat → Value → Prop} {Fin : List Value → Led → Prop} {news : Led} (Ys : Nat → List Value → Prop) {n : Nat} (hS : S news)
    (turn : ∀ i ys v I oI C oC D m₂ h tk (E' : Value → Shared → Prop), i < n → P i v → Ys i ys → LCg.NsObj oC m₂ → m₂ x = some v → Fr h₀ L h m → News h₀ L h ((I, oI) :: (C, oC) :: (D, LCg.lst ys) :: news) → LCg.Off3 I C D news →
      wpAny (model prog w) A (eval elt (compEnvC scope cl C env)) (fun y s₂ => ∃ h' tk', s₂ = { s with heap := h', toks := tk' } ∧ Fr h₀ L h' m ∧ News h₀ L h' ((I, oI) :: (C, oC) :: (D, LCg.lst ys) :: news) ∧ Ys (i + 1) (ys ++ [y])) E' { s with heap := h, toks := tk })
    (fin : ∀ ys, Ys n ys → Fin ys news) : ∀ (k i : Nat) (ys : List Value), i + k = n → Ys i ys → LCg.CompRest prog w A h₀ L m env elt x scope cl s S P Fin k i ys news
  | 0, i, ys, hk, hy => LCg.CompRest.zero (fin ys (by have : i = n := by omega
                                                      rw [← this]; exact hy))
  | k + 1, i, ys, hk, hy => LCg.CompRest.succ fun v I oI C oC D m₂ h tk E' hP hC hx F N off _ => by
    refine wpAny_mono (turn i ys v I oI C oC D m₂ h tk E' (by omega) hP hy hC hx F N off) (fun y s₂ q => ?_) fun _ _ e => e
    obtain ⟨h', tk', rfl, F', N', hy'⟩ := q
    exact ⟨h', tk', news, rfl, F', N', off, hS, rest_ind Ys hS turn fin k (i + 1) _ (by omega) hy'⟩
theorem restT_ind {ct elt : Expr} {x : Str} {scope : Scope} {cl : List (Str × Addr)} {S : Led → Prop} {P : Nat → Value → Prop} {Fin : List Value → Led → Prop} {news : Led} (Ys : Nat → List Value → Prop) {n : Nat} (hS : S news)
    (turn : ∀ i ys v I oI C oC D m₂ h tk (E' : Value → Shared → Prop), i < n → P i v → Ys i ys → LCg.NsObj oC m₂ → m₂ x = some v → Fr h₀ L h m → News h₀ L h ((I, oI) :: (C, oC) :: (D, LCg.lst ys) :: news) → LCg.Off3 I C D news →
      wpAny (model prog w) A (isTrue ct (compEnvC scope cl C env) (eval ct (compEnvC scope cl C env))) (fun ok s₁ => if ok = true then
        wpAny (model prog w) A (eval elt (compEnvC scope cl C env)) (fun y s₂ => ∃ h' tk', s₂ = { s with heap := h', toks := tk' } ∧ Fr h₀ L h' m ∧ News h₀ L h' ((I, oI) :: (C, oC) :: (D, LCg.lst ys) :: news) ∧ Ys (i + 1) (ys ++ [y])) E' s₁
        else ∃ h' tk', s₁ = { s with heap := h', toks := tk' } ∧ Fr h₀ L h' m ∧ News h₀ L h' ((I, oI) :: (C, oC) :: (D, LCg.lst ys) :: news) ∧ Ys (i + 1) ys) E' { s with heap := h, toks := tk })
    (fin : ∀ ys, Ys n ys → Fin ys news) : ∀ (k i : Nat) (ys : List Value), i + k = n → Ys i ys → LCt.CompRestT prog w A h₀ L m env ct elt x scope cl s S P Fin k i ys news
  | 0, i, ys, hk, hy => LCt.CompRestT.zero (fin ys (by have : i = n := by omega
                                                       rw [← this]; exact hy))
  | k + 1, i, ys, hk, hy => LCt.CompRestT.succ fun v I oI C oC D m₂ h tk E' hP hC hx F N off _ => by
    refine wpAny_mono (turn i ys v I oI C oC D m₂ h tk E' (by omega) hP hy hC hx F N off) (fun ok s₁ q => ?_) fun _ _ e => e
    cases ok with
    | true =>
      simp only [if_true] at q ⊢
      refine wpAny_mono q (fun y s₂ q => ?_) fun _ _ e => e
      obtain ⟨h', tk', rfl, F', N', hy'⟩ := q
      exact ⟨h', tk', news, rfl, F', N', off, hS, restT_ind Ys hS turn fin k (i + 1) _ (by omega) hy'⟩
    | false =>
      simp only [Bool.false_eq_true, if_false] at q ⊢
      obtain ⟨h', tk', rfl, F', N', hy'⟩ := q
      exact ⟨h', tk', news, rfl, F', N', off, hS, restT_ind Ys hS turn fin k (i + 1) _ (by omega) hy'⟩
end
end Mine
end
section
open PySem PySem.W PyProof.Rows PySem.Spec
set_option maxRecDepth 100000
namespace Mine
section
variable {prog : Program} {w : World} {A : Around} {E : Value → Shared → Prop} {s : Shared} {Q : Value → Shared → Prop} {t u : Tok} {h₀ : Heap} {L : Addr} {news : Led}
theorem pow_nat {a k : Nat} (ha : a < 2 ^ 60) (hk : k ≤ 64) (h : Q (.int ((a ^ k : Nat) : Int) s.toks) { s with toks := s.toks + 1 }) : wpAny (model prog w) A (binaryOp .Pow (.int (a : Int) t) (.int (k : Int) u)) Q E s := by
  refine pow_int_small (by omega) (by omega) (by omega) ?_
  rw [Int.toNat_natCast, ← Int.natCast_pow]
  exact h
theorem pow2_nat {k : Nat} (hk : k ≤ 64) (h : Q (.int ((2 ^ k : Nat) : Int) s.toks) { s with toks := s.toks + 1 }) : wpAny (model prog w) A (binaryOp .Pow (.int 2 t) (.int (k : Int) u)) Q E s := pow_nat (a := 2) (by decide) hk h
theorem pow8_nat {k : Nat} (hk : k ≤ 64) (h : Q (.int ((8 ^ k : Nat) : Int) s.toks) { s with toks := s.toks + 1 }) : wpAny (model prog w) A (binaryOp .Pow (.int 8 t) (.int (k : Int) u)) Q E s := pow_nat (a := 8) (by decide) hk h
theorem fdiv_nat {a b : Nat} (hb : 0 < b) (ha : a < 100000) (hb2 : b < 100000) (h : Q (.int ((a / b : Nat) : Int) s.toks) { s with toks := s.toks + 1 }) : wpAny (model prog w) A (binaryOp .FloorDiv (.int (a : Int) t) (.int (b : Int) u)) Q E s := by
  refine floordiv_int (by omega) ?_ (Or.inl (PyProof.noPylong_small (by omega)))
  rw [Int.fdiv_eq_ediv_of_nonneg _ (by omega), ← Int.natCast_ediv]
  exact h
theorem mod_nat {a b : Nat} (hb : 0 < b) (h : Q (.int ((a % b : Nat) : Int) s.toks) { s with toks := s.toks + 1 }) : wpAny (model prog w) A (binaryOp .Mod (.int (a : Int) t) (.int (b : Int) u)) Q E s := by
  refine mod_int (by omega) ?_
  rw [Int.fmod_eq_emod_of_nonneg _ (by omega), ← Int.natCast_emod]
  exact h
theorem mod2_nat {a : Nat} (h : Q (.int ((a % 2 : Nat) : Int) s.toks) { s with toks := s.toks + 1 }) : wpAny (model prog w) A (binaryOp .Mod (.int (a : Int) t) (.int 2 u)) Q E s := mod_nat (b := 2) (by decide) h
theorem eq1_nat {a : Nat} {b : Bool} (hb : decide (a = 1) = b) (h : Q (.bool b) s) : wpAny (model prog w) A (compareOp .Eq (.int (a : Int) t) (.int 1 u)) Q E s := by
  refine eq_int ?_
  have e : ((a : Int) == 1) = b := by
    rw [← hb, Bool.eq_iff_iff, decide_eq_true_iff, beq_iff_eq]; omega
  rw [e]; exact h
/-- an item of a list of ints -/
theorem ints_item {value slice : Expr} {l : Addr} {vs : List Value} {ns : List Int} {c : Nat} {k : Int} {x : Int} (N : News h₀ L s.heap news) (hm : (l, PySem.W.listOf vs.toArray c) ∈ news) (hi : IntsAre vs ns)
    (h0 : 0 ≤ k) (h1 : k < 64) (hx : ns[k.toNat]? = some x) (h : ∀ t, Q (.int x t) s)
    (hs : subscripted slice false (.ref l) (.int k u) = operate [.ref l, .int k u] (getItem (.ref l) (.int k u)) := by with_unfolding_all rfl) :
    wpAny (model prog w) A (subscriptTail value slice (.ref l) (.int k u)) Q E s := by
  have hl : s.heap.IsList l vs.toArray := ⟨_, (N _ hm).1, rfl, c, rfl⟩
  obtain ⟨t, ht⟩ := hi.get k.toNat x hx
  exact tail_any hl.typeIs slot_list_getitem.lookup (wpAny_getItem_list hl h0 (by omega) (by simpa using ht) (h t)) hs
theorem ints_itemN {value slice : Expr} {l : Addr} {vs : List Value} {ns : List Int} {c : Nat} {k : Nat} {x : Int} (N : News h₀ L s.heap news) (hm : (l, PySem.W.listOf vs.toArray c) ∈ news) (hi : IntsAre vs ns)
    (h1 : k < 64) (hx : ns[k]? = some x) (h : ∀ t, Q (.int x t) s)
    (hs : subscripted slice false (.ref l) (.int (k : Int) u) = operate [.ref l, .int (k : Int) u] (getItem (.ref l) (.int (k : Int) u)) := by with_unfolding_all rfl) :
    wpAny (model prog w) A (subscriptTail value slice (.ref l) (.int (k : Int) u)) Q E s := ints_item N hm hi (by omega) (by omega) (by rw [Int.toNat_natCast]; exact hx) h hs
end
section
variable {prog : Program} {w : World} {A : Around} {s : Shared} {h₀ : Heap} {L : Addr} {m : Str → Option Value} {env : Env}
theorem restT_range {ct elt : Expr} {x : Str} {scope : Scope} {cl : List (Str × Addr)} {S : Led → Prop} {Fin : List Value → Led → Prop} {news : Led} (Ys : Nat → List Value → Prop) {n : Nat} (hS : S news)
    (turn : ∀ i ys I oI C oC D m₂ h tk t (E' : Value → Shared → Prop), i < n → Ys i ys → LCg.NsObj oC m₂ → m₂ x = some (.int (i : Int) t) → Fr h₀ L h m → News h₀ L h ((I, oI) :: (C, oC) :: (D, LCg.lst ys) :: news) → LCg.Off3 I C D news →
      wpAny (model prog w) A (isTrue ct (compEnvC scope cl C env) (eval ct (compEnvC scope cl C env))) (fun ok s₁ => if ok = true then
        wpAny (model prog w) A (eval elt (compEnvC scope cl C env)) (fun y s₂ => ∃ h' tk', s₂ = { s with heap := h', toks := tk' } ∧ Fr h₀ L h' m ∧ News h₀ L h' ((I, oI) :: (C, oC) :: (D, LCg.lst ys) :: news) ∧ Ys (i + 1) (ys ++ [y])) E' s₁
        else ∃ h' tk', s₁ = { s with heap := h', toks := tk' } ∧ Fr h₀ L h' m ∧ News h₀ L h' ((I, oI) :: (C, oC) :: (D, LCg.lst ys) :: news) ∧ Ys (i + 1) ys) E' { s with heap := h, toks := tk })
    (fin : ∀ ys, Ys n ys → Fin ys news) (h0 : Ys 0 []) : LCt.CompRestT prog w A h₀ L m env ct elt x scope cl s S (fun i v => ∃ t, v = .int (0 + (i : Int)) t) Fin n 0 [] news :=
  restT_ind Ys hS (fun i ys v I oI C oC D m₂ h tk E' hi hP hy hC hx F N off => by
    obtain ⟨t, rfl⟩ := hP
    rw [Int.zero_add] at hx
    exact turn i ys I oI C oC D m₂ h tk t E' hi hy hC hx F N off) fin n 0 [] (Nat.zero_add n) h0
end
theorem dat3 {tl : Led} {v : Value} {a b c : Int} (h : DatIn tl v (.tuple [.int a, .int b, .int c])) : ∃ (ad : Addr) (n : Nat) (t1 t2 t3 : Tok), v = .ref ad ∧ (ad, ({ cls := .type "tuple", data := .seq #[.int a t1, .int b t2, .int c t3] n } : Obj)) ∈ tl := by
  cases h with
  | tuple hm hd =>
    cases hd with
    | cons h1 hd =>
      cases h1
      cases hd with
      | cons h2 hd =>
        cases h2
        cases hd with
        | cons h3 hd =>
          cases h3
          cases hd
          exact ⟨_, _, _, _, _, rfl, hm⟩
/-- a mark at which the walk stops -/
structure Stop (P : Prop) : Prop where
  go : P
end Mine
end
section
open PySem PySem.W PyProof.Rows PySem.Spec
set_option maxRecDepth 100000
namespace Mine
section
variable {prog : Program} {w : World} {A : Around} {E : Value → Shared → Prop} {s : Shared} {Q : Value → Shared → Prop} {u : Tok} {h₀ : Heap} {L : Addr} {m : Str → Option Value} {news news' : Led}
theorem ints_erase {g : Nat} : ∀ {vs : List Value} {l : List Nat}, IntsAre vs (l.map fun x : Nat => (x : Int)) → g ∈ l → ∃ j, ∃ hj : j < vs.length, (∃ t, vs[j] = .int (g : Int) t) ∧ (∀ k (hk : k < vs.length), k < j → ∃ (x : Nat) (t : Tok), vs[k] = .int (x : Int) t ∧ x ≠ g) ∧ IntsAre (vs.eraseIdx j) ((l.erase g).map fun x : Nat => (x : Int))
  | vs, [], h, hg => nomatch hg
  | vs, a :: l, h, hg => by
    obtain ⟨t, us, rfl, h'⟩ := IntsAre.cons_inv h
    by_cases e : a = g
    · subst e
      refine ⟨0, by simp, ⟨t, rfl⟩, fun k hk hk0 => absurd hk0 (Nat.not_lt_zero _), ?_⟩
      rw [List.erase_cons_head]
      exact h'
    · have hg' : g ∈ l := by
        rcases List.mem_cons.mp hg with h | h
        · exact absurd h.symm e
        · exact h
      obtain ⟨j, hj, ⟨t2, h1⟩, h2, h3⟩ := ints_erase h' hg'
      refine ⟨j + 1, by simp only [List.length_cons]; omega, ⟨t2, by simpa using h1⟩, fun k hk hk1 => ?_, ?_⟩
      · cases k with
        | zero => exact ⟨a, t, rfl, e⟩
        | succ k =>
          obtain ⟨x, t3, h4, h5⟩ := h2 k (by simp only [List.length_cons] at hk; omega) (by omega)
          exact ⟨x, t3, by simpa using h4, h5⟩
      · rw [List.erase_cons_tail (by simpa using e)]
        exact .cons _ _ h3
theorem remove_K {D : Addr} {vs : List Value} {c : Nat} {l : List Nat} {g : Nat} {t : Tok} {Nw : Obj → Led} (F : Fr h₀ L s.heap m) (N : News h₀ L s.heap news) (U : UpdF D (PySem.W.listOf vs.toArray c) news Nw)
    (hi : IntsAre vs (l.map fun x : Nat => (x : Int))) (hg : g ∈ l) (hl : vs.length ≤ 64)
    (h : ∀ h' vs' c', Fr h₀ L h' m → News h₀ L h' (Nw (PySem.W.listOf vs'.toArray c')) → IntsAre vs' ((l.erase g).map fun x : Nat => (x : Int)) → Q .none { s with heap := h' }) :
    wpAny (model prog w) A (call (.builtin "list.remove") [.ref D, .int (g : Int) t]) Q E s := by
  obtain ⟨pre, post, rfl, hN, a, b⟩ := U.split
  have z := N (D, PySem.W.listOf vs.toArray c) (List.mem_append.mpr (.inr (.head _)))
  obtain ⟨j, hj, ⟨t2, h1⟩, h2, h3⟩ := ints_erase hi hg
  have hsz : vs.toArray.size ≤ sizeLine := by rw [List.size_toArray, sizeLine_eq]; omega
  have hj' : j < vs.toArray.size := by rw [List.size_toArray]; exact hj
  refine call_meets PySem.F.slot_list_remove ⟨_, z.1, rfl⟩ PySem.F.entry_list_remove (PySem.F.args_list_remove_2 _ _)
    (PySem.MeetsSeq.list_remove D vs.toArray c (.int (g : Int) t) (fun y => match y with | .int a _ => a == (g : Int) | _ => false) (fun y hy => ?_) j hj' ?_ (fun k hk hkj => ?_) hsz) ⟨z.1, ?_⟩
  · obtain ⟨n, t3, rfl⟩ := hi.all y (by simpa using hy)
    exact PySem.MeetsSeq.EqGives.int _ _ _ _
  · have : vs.toArray[j] = .int (g : Int) t2 := by simpa using h1
    rw [this]; simp
  · obtain ⟨x, t3, h4, h5⟩ := h2 k (by simpa using hk) hkj
    have : vs.toArray[k] = .int (x : Int) t3 := by simpa using h4
    rw [this]
    simp only [beq_eq_false_iff_ne, ne_eq]
    omega
  · have e : (vs.toArray.eraseIdxIfInBounds j) = (vs.eraseIdx j).toArray := by simp
    have hs : Heap.SameBut D s.heap (s.heap.update D (Obj.mapSeq fun xs => xs.eraseIdxIfInBounds j)) := Heap.SameBut.update ..
    have eo : Obj.mapSeq (fun xs => xs.eraseIdxIfInBounds j) (PySem.W.listOf vs.toArray c) = PySem.W.listOf (vs.eraseIdx j).toArray (if (vs.toArray.eraseIdxIfInBounds j).size == vs.toArray.size then c else c + 1) := by
      show (⟨.type "list", none, .seq (vs.toArray.eraseIdxIfInBounds j) (if (vs.toArray.eraseIdxIfInBounds j).size == vs.toArray.size then c else c + 1), #[]⟩ : Obj) = _
      rw [e]
    refine h _ (vs.eraseIdx j) (if (vs.toArray.eraseIdxIfInBounds j).size == vs.toArray.size then c else c + 1) (F.change hs z.2.1 z.2.2) ?_ h3
    rw [hN]
    refine news_set N a b hs (o' := PySem.W.listOf (vs.eraseIdx j).toArray (if (vs.toArray.eraseIdxIfInBounds j).size == vs.toArray.size then c else c + 1)) ?_
    rw [← eo]
    exact Heap.get?_update_self _ z.1 rfl
end
end Mine
end
section
open PySem PySem.W PyProof.Rows PySem.Calls PySem.Spec
namespace Mine
noncomputable def tc (x : Int) : Nat := turnOf (pi x) (ti x)
noncomputable def gc (x : Int) : Nat := (goodOf (gi x)).1
noncomputable def gv (x : Int) : Nat := (goodOf (gi x)).2
noncomputable def toldL (n : Nat → Int) : List Nat := [tc (n 0), gc (n 0), tc (n 1), gc (n 1), tc (n 2), gc (n 2), tc (n 3), gc (n 3), tc (n 4), gc (n 4)]
noncomputable def turnL (n : Nat → Int) : List Int := [(pi (n 0) : Int), pi (n 1), pi (n 2), pi (n 3), pi (n 4)]
noncomputable def firstL (n : Nat → Int) : List Int := [5 * (gv (n 0) : Int) + 0, 5 * (gv (n 1) : Int) + 1, 5 * (gv (n 2) : Int) + 2, 5 * (gv (n 3) : Int) + 3, 5 * (gv (n 4) : Int) + 4]
noncomputable def secondL (n : Nat → Int) : List Int := [5 * codesOf (gc (n 0)) 0 + 0, 5 * codesOf (gc (n 1)) 1 + 1, 5 * codesOf (gc (n 2)) 2 + 2, 5 * codesOf (gc (n 3)) 3 + 3, 5 * codesOf (gc (n 4)) 4 + 4]
theorem C_c8' (w : World) (mean : ExcName → Option Value) (mg mb : Str → Option Value) (k : Nat) (t : Tok) (b : Bool) : Ct w mean mg mb 138 [.str (one k) t] (fun _ _ => decide ((k : Int) ∈ c8s) = b) (BoolPost b) := by
  intro dp un gd cn cs a ccd cl outer A₀ base h₀ L m news s Q E B F X N T hk pre hd hu ret
  subst pre
  exact C_c8 w mean mg mb k t dp un gd cn cs a ccd cl outer A₀ base h₀ L m news s Q E B F X N T hk trivial hd hu ret
noncomputable def c4b (k : Nat) : Bool := decide (64976 ≤ k ∧ (k < 65008 ∨ k % 65536 = 65534 ∨ k % 65536 = 65535))
theorem C_c4' (w : World) (mean : ExcName → Option Value) (mg mb : Str → Option Value) (k : Nat) (t : Tok) (b : Bool) : Ct w mean mg mb 114 [.str (one k) t] (fun _ _ => k < 1114112 ∧ c4b k = b) (BoolPost b) := by
  intro dp un gd cn cs a ccd cl outer A₀ base h₀ L m news s Q E B F X N T hk pre hd hu ret
  obtain ⟨p1, p2⟩ := pre
  subst p2
  exact C_c4 w mean mg mb k t dp un gd cn cs a ccd cl outer A₀ base h₀ L m news s Q E B F X N T hk p1 hd hu ret
theorem turn_facts : ∀ p < 2, ∀ f < 66, turnOf p f < 1114112 ∧ decide ((turnOf p f : Int) ∈ c8s) = decide (p = 0) ∧ (p ≠ 0 → c4b (turnOf p f) = true) := by decide +kernel
theorem good_facts : ∀ i < 364, (goodOf i).1 < 1114112 ∧ (goodOf i).2 < 1114112 ∧ decide (((goodOf i).1 : Int) ∈ c8s) = false ∧ c4b (goodOf i).1 = false := by decide +kernel
structure HS where
  tv : List Value
  w0 : List Value
  w1 : List Value
  ct : Nat
  c0 : Nat
  c1 : Nat
noncomputable def HF (n : Nat → Int) (i : Nat) (c : HS) : Prop := IntsAre c.tv ((turnL n).take ((i + 1) / 2)) ∧ IntsAre c.w0 ((firstL n).take (i / 2)) ∧ IntsAre c.w1 ((secondL n).take (i / 2))
noncomputable abbrev tupO (vs : Array Value) (c : Nat) : Obj := { cls := .type "tuple", data := .seq vs c }
noncomputable def HeardPost (n : Nat → Int) (tl : Led) (r : Value) : Prop := ∃ (X T Wd a b : Addr) (c : HS) (cw cx : Nat), r = .ref X ∧ tl = [(X, tupO #[.ref T, .ref Wd] cx), (T, PySem.W.listOf c.tv.toArray c.ct), (Wd, PySem.W.listOf #[.ref a, .ref b] cw), (a, PySem.W.listOf c.w0.toArray c.c0), (b, PySem.W.listOf c.w1.toArray c.c1)] ∧
  IntsAre c.tv (turnL n) ∧ IntsAre c.w0 (firstL n) ∧ IntsAre c.w1 (secondL n)
local macro_rules | `(tactic| walk_at "exec For Name Name cons nil") => `(tactic| (k_here; (rename Fr _ _ _ _ => lF'); (with_unfolding_all refine' For_invTF lF' ?_ ?k2; (case k2 => intro _; rfl); k_whole)))
theorem linesC7_1 : True := by
  k_with "call ref" => (k_here; (with_reducible show wpAny _ _ (call (Value.ref 138) _) _ _ _); k_dflt (refine' Ct.use (C_c8' _ _ _ _ _ _ _) (by w_strict (k_asm)) (by w_strict (k_asm)) (by w_strict (k_asm)) (by w_strict (k_asm)) (by w_strict (k_asm)) rfl (by w_strict (assumption)) (by w_strict (ktr_room)) (by w_strict (ktr_units)) ?_; intro _ _ _ _ _ N9 l9 hP9; obtain ⟨ea, eb⟩ := hP9; subst ea; subst eb; (try dsimp only [List.cons_append, List.nil_append] at N9); clear l9))
  k_with "call ref" => (k_here; (with_reducible show wpAny _ _ (call (Value.ref 114) _) _ _ _); k_dflt (refine' Ct.use (C_c4' _ _ _ _ _ _ _) (by w_strict (k_asm)) (by w_strict (k_asm)) (by w_strict (k_asm)) (by w_strict (k_asm)) (by w_strict (k_asm)) rfl (by w_strict (exact ⟨by assumption, by assumption⟩)) (by w_strict (ktr_room)) (by w_strict (ktr_units)) ?_; intro _ _ _ _ _ N9 l9 hP9; obtain ⟨ea, eb⟩ := hP9; subst ea; subst eb; (try dsimp only [List.cons_append, List.nil_append] at N9); clear l9))
  k_with "call ref" => (k_here; (with_reducible show wpAny _ _ (call (Value.ref 107) _) _ _ _); k_dflt (refine' Ct.use (C_map _ _ _ _ _ _) (by w_strict (k_asm)) (by w_strict (k_asm)) (by w_strict (k_asm)) (by w_strict (k_asm)) (by w_strict (k_asm)) rfl (by w_strict (assumption)) (by w_strict (ktr_room)) (by w_strict (ktr_units)) ?_; intro _ _ _ _ _ N9 l9 hP9; obtain ⟨ea, _, eb⟩ := hP9; subst ea; subst eb; (try dsimp only [List.cons_append, List.nil_append] at N9); clear l9))
  k_with "call ref" => (k_here; (with_reducible show wpAny _ _ (call (Value.ref 29) _) _ _ _); k_dflt (refine' C_varint _ _ _ _ _ _ _ _ _ _ _ _ _ _ _ _ _ _ _ _ _ _ _ _ _ _ _ _ _ (by w_strict (k_asm)) (by w_strict (k_asm)) (by w_strict (k_asm)) (by w_strict (k_asm)) (by w_strict (k_asm)) rfl (by w_strict (refine ⟨⟨by assumption, by omega, by omega⟩, ?_⟩; k_all)) (by w_strict (ktr_room)) (by w_strict (ktr_units)) ?_; intro _ _ _ _ _ _ hP9; obtain ⟨ea, _, eb⟩ := hP9; subst ea; subst eb))
  k_with "call builtin:iter" => (k_here; (with_reducible show wpAny _ _ (call (Value.builtin "iter") [Value.ref _]) _ _ _); k_dflt (refine li_iter (by k_asm) (by k_asm) (by k_mem) ?_; intro _ _ _ _ l1; (try k_lt l1)))
  trivial
section
variable {prog : Program} {w : World} {A : Around} {E : Value → Shared → Prop} {s : Shared} {h₀ : Heap} {L : Addr} {news : Led}
theorem sz_of {l : List Value} {j : Nat} (h : l.length = j) (hj : j ≤ 64) : l.toArray.size ≤ sizeLine := by
  rw [List.size_toArray, h, sizeLine_eq]; omega
theorem len_K {l : Addr} {vs : List Value} {c j : Nat} {Q : Value → Shared → Prop} (N : News h₀ L s.heap news) (hm : (l, PySem.W.listOf vs.toArray c) ∈ news) (hz : vs.length = j) (hj : j ≤ 64)
    (h : Q (.int (j : Int) (s.toks + 1)) { s with toks := s.toks + 1 + 1 }) : wpAny (model prog w) A (call (.builtin "len") [.ref l]) Q E s := by
  have e : vs.toArray.size = j := by rw [List.size_toArray, hz]
  exact len_list (items := vs.toArray) ⟨_, (N _ hm).1, rfl, c, rfl⟩ (by rw [e]; omega) (by rw [e]; exact h)
end
theorem codes_bound (k : Nat) {p : Int} (h0 : 0 ≤ p) (h1 : p < 5) : 0 ≤ codesOf k p ∧ codesOf k p ≤ 5000 := by
  unfold codesOf; split <;> omega
theorem linesC7_2 : True := by
  k_with "call builtin:list.append" => (k_here; (with_reducible show wpAny _ _ (call (Value.builtin _) [Value.ref _, _]) _ _ _); k_dflt (refine' append_K (by w_strict (k_asm)) (by w_strict (k_asm)) (by w_strict (k_upd)) ?_ (by w_strict (exact sz_of (by assumption) (by omega))); k_whole); intro _ _ _; (try k_sweep))
  k_with "call builtin:len" => (k_here; (with_reducible show wpAny _ _ (call (Value.builtin "len") [Value.ref _]) _ _ _); k_dflt (refine' len_K (by w_strict (k_asm)) (by w_strict (k_mem)) (by w_strict (assumption)) (by w_strict (omega)) ?_; k_whole))
  trivial
theorem told_at {n : Nat → Int} {i k : Nat} (h : (⟨(toldL n).toArray⟩ : Str).cps[i]? = some k) : ∃ j < 5, (i = 2 * j ∧ k = tc (n j)) ∨ (i = 2 * j + 1 ∧ k = gc (n j)) := by
  have h' : (toldL n)[i]? = some k := by simpa using h
  unfold toldL at h'
  match i, h' with
  | 0, h => exact ⟨0, by decide, .inl ⟨rfl, by injection h with h; exact h.symm⟩⟩
  | 1, h => exact ⟨0, by decide, .inr ⟨rfl, by injection h with h; exact h.symm⟩⟩
  | 2, h => exact ⟨1, by decide, .inl ⟨rfl, by injection h with h; exact h.symm⟩⟩
  | 3, h => exact ⟨1, by decide, .inr ⟨rfl, by injection h with h; exact h.symm⟩⟩
  | 4, h => exact ⟨2, by decide, .inl ⟨rfl, by injection h with h; exact h.symm⟩⟩
  | 5, h => exact ⟨2, by decide, .inr ⟨rfl, by injection h with h; exact h.symm⟩⟩
  | 6, h => exact ⟨3, by decide, .inl ⟨rfl, by injection h with h; exact h.symm⟩⟩
  | 7, h => exact ⟨3, by decide, .inr ⟨rfl, by injection h with h; exact h.symm⟩⟩
  | 8, h => exact ⟨4, by decide, .inl ⟨rfl, by injection h with h; exact h.symm⟩⟩
  | 9, h => exact ⟨4, by decide, .inr ⟨rfl, by injection h with h; exact h.symm⟩⟩
  | i + 10, h => simp at h
theorem hf_turn {n : Nat → Int} {j : Nat} {c : HS} {x : Int} {t : Tok} {a b d : Nat} (h : HF n (2 * j) c) (hj : j < 5) (hx : (pi (n j) : Int) = x) : HF n (2 * j + 1) ⟨c.tv ++ [.int x t], c.w0, c.w1, a, b, d⟩ := by
  subst hx
  obtain ⟨h1, h2, h3⟩ := h
  match j, hj with
  | 0, _ => exact ⟨IntsAre.append h1 (.cons _ _ .nil), h2, h3⟩
  | 1, _ => exact ⟨IntsAre.append h1 (.cons _ _ .nil), h2, h3⟩
  | 2, _ => exact ⟨IntsAre.append h1 (.cons _ _ .nil), h2, h3⟩
  | 3, _ => exact ⟨IntsAre.append h1 (.cons _ _ .nil), h2, h3⟩
  | 4, _ => exact ⟨IntsAre.append h1 (.cons _ _ .nil), h2, h3⟩
theorem hf_good {n : Nat → Int} {j : Nat} {c : HS} {x y : Int} {t u : Tok} {a b d : Nat} (h : HF n (2 * j + 1) c) (hj : j < 5) (hx : 5 * ((goodOf (gi (n j))).2 : Int) + (j : Int) = x) (hy : 5 * codesOf (goodOf (gi (n j))).1 (j : Int) + (j : Int) = y) :
    HF n (2 * j + 1 + 1) ⟨c.tv, c.w0 ++ [.int x t], c.w1 ++ [.int y u], a, b, d⟩ := by
  subst hx hy
  obtain ⟨h1, h2, h3⟩ := h
  match j, hj with
  | 0, _ => exact ⟨h1, IntsAre.append h2 (.cons _ _ .nil), IntsAre.append h3 (.cons _ _ .nil)⟩
  | 1, _ => exact ⟨h1, IntsAre.append h2 (.cons _ _ .nil), IntsAre.append h3 (.cons _ _ .nil)⟩
  | 2, _ => exact ⟨h1, IntsAre.append h2 (.cons _ _ .nil), IntsAre.append h3 (.cons _ _ .nil)⟩
  | 3, _ => exact ⟨h1, IntsAre.append h2 (.cons _ _ .nil), IntsAre.append h3 (.cons _ _ .nil)⟩
  | 4, _ => exact ⟨h1, IntsAre.append h2 (.cons _ _ .nil), IntsAre.append h3 (.cons _ _ .nil)⟩
theorem lt_cons {news tl : Led} {x : Addr} {o : Obj} (h : ∀ q ∈ news, q.1 < x) (r : ∀ p ∈ tl, ∀ q ∈ news, q.1 < p.1) : ∀ p ∈ (x, o) :: tl, ∀ q ∈ news, q.1 < p.1 := fun p hp q hq => by
  rcases List.mem_cons.mp hp with rfl | hp
  · exact h q hq
  · exact r p hp q hq
theorem hf_end {n : Nat → Int} {c : HS} (h : HF n 10 c) : IntsAre c.tv (turnL n) ∧ IntsAre c.w0 (firstL n) ∧ IntsAre c.w1 (secondL n) := h
theorem off_of {news : Led} {as : List Addr} (h : ∀ a ∈ as, ∀ q ∈ news, q.1 < a) : OwnOff news as := fun p hp b hb e => absurd (h b hb p hp) (by rw [e]; exact Nat.lt_irrefl _)
set_option maxRecDepth 100000 in
set_option maxHeartbeats 8000000 in
theorem C_heard (w : World) (mean : ExcName → Option Value) (mg mb : Str → Option Value) (n : Nat → Int) (t : Tok) :
  Ct2 w mean mg mb 173 [.str ⟨(toldL n).toArray⟩ t] (fun _ _ => True) (HeardPost n) := by
  unfold Ct2
  intro dp un gd cn cs a ccd cl outer A₀ base h₀ L m news s Q E B F X N T hk pre hd hu ret
  refine wpAny_call ?_
  k_dflt cell_enter
  k_steps
  rename_i zT h1 lT za h2 la zb h3 lb zW h4 lW zD h5 lD h6 h7 h8 zF zN
  have lT' := lT
  have la' := allLt_mem la.2
  have lb' := allLt_mem lb.2.2
  have lW' := allLt_mem lW.2.2.2
  refine fs_str (σ := HS) (fun _ => [(Str.ofString "turns", .ref zT), (Str.ofString "worth", .ref zW)]) (fun c => (zT, PySem.W.listOf c.tv.toArray c.ct) :: (zW, PySem.W.listOf #[.ref za, .ref zb] 0) :: (za, PySem.W.listOf c.w0.toArray c.c0) :: (zb, PySem.W.listOf c.w1.toArray c.c1) :: news) (HF n) ⟨[], [], [], 0, 0, 0⟩ rfl zF zN ?_ ?_ ?_ (fun _ _ => rfl) ?_ ?_
  · intro p hp
    rcases List.mem_cons.mp hp with rfl | hp
    · k_mem
    · rcases List.mem_cons.mp hp with rfl | hp
      · k_mem
      · rcases List.mem_cons.mp hp with rfl | hp
        · k_mem
        · rcases List.mem_cons.mp hp with rfl | hp
          · k_mem
          · exact .tail _ (.tail _ (.tail _ (.tail _ (.tail _ hp))))
  · kst_all
  · exact ⟨.nil, .nil, .nil⟩
  · intro I hI i v c u s' oI hi hv hne hf F1 N1
    obtain ⟨k, t', hk', rfl⟩ := hv
    have iT : @LT.lt Nat _ zT I := hI _ (.head _)
    have iW : @LT.lt Nat _ zW I := hI _ (.tail _ (.head _))
    have ia : @LT.lt Nat _ za I := hI _ (.tail _ (.tail _ (.head _)))
    have ib : @LT.lt Nat _ zb I := hI _ (.tail _ (.tail _ (.tail _ (.head _))))
    have iN : ∀ q ∈ news, q.1 < I := fun q hq => hI q (.tail _ (.tail _ (.tail _ (.tail _ hq))))
    have hoff : OwnOff news [zT, zW, za, zb, I] := off_of fun b hb => by
      simp only [List.mem_cons, List.not_mem_nil, or_false] at hb
      rcases hb with rfl | rfl | rfl | rfl | rfl <;> assumption
    clear zF zN
    obtain ⟨j, hj, hk2⟩ := told_at hk'
    have hp := (pform (n j)).2
    have ht := (tform (n j)).2
    have hg := (gform (n j)).2
    rcases hk2 with ⟨rfl, rfl⟩ | ⟨rfl, rfl⟩
    · obtain ⟨q1, q2, q3⟩ := turn_facts _ hp _ ht
      have hl0 : c.tv.length = j := by rw [hf.1.length, List.length_take]; show min _ 5 = j; omega
      by_cases h0 : pi (n j) = 0
      · have e8 : decide ((tc (n j) : Int) ∈ c8s) = true := by unfold tc; rw [q2, h0]; rfl
        generalize tc (n j) = k at *
        k_steps
        rename News _ _ _ _ => eN
        rename Fr _ _ _ _ => eF
        simp only [List.push_toArray] at eN
        refine TS.intro (⟨_, _, _, _, _, _⟩ : HS) eF eN (fun p hp => by cases List.mem_singleton.mp hp; exact .head _) (List.forall_mem_cons.mpr ⟨by k_mem, List.forall_mem_cons.mpr ⟨by k_mem, List.forall_mem_cons.mpr ⟨by k_mem, List.forall_mem_cons.mpr ⟨by k_mem, fun p hp => .tail _ (.tail _ (.tail _ (.tail _ (.tail _ hp))))⟩⟩⟩⟩) (List.forall_mem_cons.mpr ⟨Nat.ne_of_lt iT, List.forall_mem_cons.mpr ⟨Nat.ne_of_lt iW, List.forall_mem_cons.mpr ⟨Nat.ne_of_lt ia, List.forall_mem_cons.mpr ⟨Nat.ne_of_lt ib, fun q hq => Nat.ne_of_lt (iN q hq)⟩⟩⟩⟩) (by kst_all) (hf_turn hf hj (by rw [h0]; rfl))
      · have e8 : decide ((tc (n j) : Int) ∈ c8s) = false := by unfold tc; rw [q2]; exact decide_eq_false h0
        have e4 : c4b (tc (n j)) = true := q3 h0
        have e5 : tc (n j) < 1114112 := q1
        have hp1 : ((pi (n j) : Nat) : Int) = 1 := by omega
        generalize tc (n j) = k at *
        k_steps
        rename News _ _ _ _ => eN
        rename Fr _ _ _ _ => eF
        simp only [List.push_toArray] at eN
        refine TS.intro (⟨_, _, _, _, _, _⟩ : HS) eF eN (fun p hp => by cases List.mem_singleton.mp hp; exact .head _) (List.forall_mem_cons.mpr ⟨by k_mem, List.forall_mem_cons.mpr ⟨by k_mem, List.forall_mem_cons.mpr ⟨by k_mem, List.forall_mem_cons.mpr ⟨by k_mem, fun p hp => .tail _ (.tail _ (.tail _ (.tail _ (.tail _ hp))))⟩⟩⟩⟩) (List.forall_mem_cons.mpr ⟨Nat.ne_of_lt iT, List.forall_mem_cons.mpr ⟨Nat.ne_of_lt iW, List.forall_mem_cons.mpr ⟨Nat.ne_of_lt ia, List.forall_mem_cons.mpr ⟨Nat.ne_of_lt ib, fun q hq => Nat.ne_of_lt (iN q hq)⟩⟩⟩⟩) (by kst_all) (hf_turn hf hj hp1)
    · obtain ⟨q1, q2, q3, q4⟩ := good_facts _ hg
      have hl0 : c.w0.length = j := by rw [hf.2.1.length, List.length_take]; show min _ 5 = j; omega
      have hl1 : c.w1.length = j := by rw [hf.2.2.length, List.length_take]; show min _ 5 = j; omega
      have hb := codes_bound (goodOf (gi (n j))).1 (p := (j : Int)) (by omega) (by omega)
      unfold gc
      k_steps
      rename News _ _ _ _ => eN
      rename Fr _ _ _ _ => eF
      simp only [List.push_toArray] at eN
      refine TS.intro (⟨_, _, _, _, _, _⟩ : HS) eF eN (fun p hp => by cases List.mem_singleton.mp hp; exact .head _) (List.forall_mem_cons.mpr ⟨by k_mem, List.forall_mem_cons.mpr ⟨by k_mem, List.forall_mem_cons.mpr ⟨by k_mem, List.forall_mem_cons.mpr ⟨by k_mem, fun p hp => .tail _ (.tail _ (.tail _ (.tail _ (.tail _ hp))))⟩⟩⟩⟩) (List.forall_mem_cons.mpr ⟨Nat.ne_of_lt iT, List.forall_mem_cons.mpr ⟨Nat.ne_of_lt iW, List.forall_mem_cons.mpr ⟨Nat.ne_of_lt ia, List.forall_mem_cons.mpr ⟨Nat.ne_of_lt ib, fun q hq => Nat.ne_of_lt (iN q hq)⟩⟩⟩⟩) (by kst_all) (hf_good hf hj rfl rfl)
  · intro c u h tk hf F1 N1
    clear zF zN
    try dsimp only
    k_steps
    rename News h₀ L _ _ => eN
    rename Fr h₀ L _ _ => eF
    have hz : ({ cps := (toldL n).toArray } : Str).cps.size = 10 := by simp [toldL]
    rw [hz] at hf
    obtain ⟨hf1, hf2, hf3⟩ := hf_end hf
    exact ret _ [_, _, _, _, _] _ _ eF eN (lt_cons (by first | assumption | exact allLt_mem (And.right (And.right (And.right (And.right (by assumption)))))) (lt_cons lT' (lt_cons lW' (lt_cons la' (lt_one lb'))))) ⟨_, _, _, _, _, c, _, _, rfl, rfl, hf1, hf2, hf3⟩
theorem linesC7_end : True := by
  k_with_none
  trivial
end Mine
end
section
open PySem PySem.W PyProof.Rows PySem.Calls PySem.Spec
namespace Mine
noncomputable def IntPost8 (g : Int) (tl : Led) (r : Value) : Prop := tl = [] ∧ ∃ t, r = .int g t
structure TW where
  T : Addr
  W : Addr
  a : Addr
  b : Addr
  tv : List Value
  w0 : List Value
  w1 : List Value
  ct : Nat
  cw : Nat
  c0 : Nat
  c1 : Nat
noncomputable def TW.Ok (x : TW) (v : Nat → Nat → Int) (ts : List Nat) (news : Led) : Prop :=
  (x.T, PySem.W.listOf x.tv.toArray x.ct) ∈ news ∧ (x.W, PySem.W.listOf #[.ref x.a, .ref x.b] x.cw) ∈ news ∧ (x.a, PySem.W.listOf x.w0.toArray x.c0) ∈ news ∧ (x.b, PySem.W.listOf x.w1.toArray x.c1) ∈ news ∧
  IntsAre x.tv (ts.map fun p : Nat => (p : Int)) ∧ IntsAre x.w0 ((List.range 5).map (v 0)) ∧ IntsAre x.w1 ((List.range 5).map (v 1)) ∧ ∀ p g, 0 ≤ v p g ∧ v p g ≤ 10000000
noncomputable def endD (v : Nat → Nat → Int) (ts : List Nat) (S : Nat) : Dat := .tuple [.int (endOf v ts S).1, .int (endOf v ts S).2.1, .int (endOf v ts S).2.2]
structure PS where
  tl : Led
  ev : List Value
  ce : Nat
  oc : Obj
noncomputable def PF (v : Nat → Nat → Int) (ts : List Nat) (E cL : Addr) (i : Nat) (c : PS) : Prop :=
  DatAll c.tl c.ev ((List.range (i + 1)).map (endD v ts)) ∧ (∃ vo, c.oc.data = .cell vo) ∧ OwnOff c.tl [E, cL]
theorem endOf_zero {v : Nat → Nat → Int} {ts : List Nat} (F : Fair v ts) : endOf v ts 0 = (0, 0, 0) := by
  unfold endOf
  have : (ts.drop (5 - (goodsOf 0).length)) = [] := List.drop_eq_nil_of_le (by rw [F.len]; decide)
  rw [this]; rfl
theorem off_one {D : Addr} {o : Obj} {as : List Addr} (h : ∀ a ∈ as, D ≠ a) : OwnOff [(D, o)] as := fun p hp b hb => by cases List.mem_singleton.mp hp; exact h b hb
theorem linesC8_1 : True := by
  k_with "exec Assign cons ListComp" => (k_here; k_dflt (refine LCt.Assign_ListComp_T (F₀ := by k_asm) (by rfl) (by with_unfolding_all rfl) (by with_unfolding_all rfl) (by decide) (by rfl) (by decide) (by rfl) (by rfl) (by rfl) ?_); k_dflt lct_toSrc)
  trivial
noncomputable def cands (v : Nat → Nat → Int) (ts : List Nat) (S wh : Nat) : List Tri := (goodsOf S).map fun g => tadd (give v wh g) (endOf v ts (S - 2 ^ g))
noncomputable def bestDat : Option Tri → Dat
  | none => .none
  | some e => .tuple [.int e.1, .int e.2.1, .int e.2.2]
structure IS where
  tl : Led
  b : Value
  tw : Tok
noncomputable def IF (v : Nat → Nat → Int) (ts : List Nat) (S wh : Nat) (as : List Addr) (j : Nat) (c : IS) : Prop :=
  DatIn c.tl c.b (bestDat (((cands v ts S wh).take j).foldl (pick wh) none)) ∧ OwnOff c.tl as
theorem cands_take {v : Nat → Nat → Int} {ts : List Nat} {S wh j g : Nat} (h : (goodsOf S)[j]? = some g) : (cands v ts S wh).take (j + 1) = (cands v ts S wh).take j ++ [tadd (give v wh g) (endOf v ts (S - 2 ^ g))] := by
  unfold cands
  rw [List.take_add_one, List.getElem?_map, h]; rfl
theorem cand0 {v : Nat → Nat → Int} {ts : List Nat} {S g : Nat} : tadd (give v 0 g) (endOf v ts S) = ((endOf v ts S).1 + ((8 ^ g : Nat) : Int), (endOf v ts S).2.1 + v 0 g, (endOf v ts S).2.2) := by
  have e : ((8 ^ g : Nat) : Int) = (8 : Int) ^ g := by rw [Int.natCast_pow]; rfl
  rw [e]
  unfold tadd give
  rw [if_pos rfl]
  ext <;> dsimp only <;> omega
theorem cand1 {v : Nat → Nat → Int} {ts : List Nat} {S g : Nat} : tadd (give v 1 g) (endOf v ts S) = ((endOf v ts S).1, (endOf v ts S).2.1, (endOf v ts S).2.2 + v 1 g) := by
  unfold tadd give
  rw [if_neg (by decide)]
  ext <;> dsimp only <;> omega
theorem pf_more {v : Nat → Nat → Int} {ts : List Nat} {i S : Nat} {tl : Led} {ev : List Value} {b : Value} (hS : S = i + 1) (h : DatAll tl ev ((List.range S).map (endD v ts))) (hb : DatIn tl b (endD v ts S)) : DatAll tl (ev ++ [b]) ((List.range (i + 1 + 1)).map (endD v ts)) := by
  rw [List.range_succ, List.map_append, ← hS]
  exact h.append (.cons hb .nil)
theorem ts_new {E : Addr} {o : Obj} {rest tl2 : Led} {tw : Tok} {ps : IS → List (Str × Value)} {Led : IS → List (Addr × Obj)} {F1 : IS → Prop} {h₀ : Heap} {L I : Addr} {keep : List (Addr × Obj)} {s₁ : Shared} {h' : Heap} {tk : Nat} {m' : Str → Option Value}
    (F : Fr h₀ L h' m') (N : News h₀ L h' ((E, o) :: rest)) (hk : ∀ p ∈ keep, p ∈ (E, o) :: rest) (hn : ∀ p ∈ Led ⟨(E, o) :: tl2, .ref E, tw⟩, p ∈ (E, o) :: rest) (hI : ∀ p ∈ Led ⟨(E, o) :: tl2, .ref E, tw⟩, p.1 ≠ I) (h1 : ∀ p ∈ ps ⟨(E, o) :: tl2, .ref E, tw⟩, m' p.1 = some p.2) (hf : F1 ⟨(E, o) :: tl2, .ref E, tw⟩) :
    TS ps Led F1 h₀ L I keep s₁ .next { s₁ with heap := h', toks := tk } := TS.intro _ F N hk hn hI h1 hf
theorem off_cons {D : Addr} {o : Obj} {tl : Led} {as : List Addr} (h : ∀ a ∈ as, @Ne Nat D a) (r : OwnOff tl as) : OwnOff ((D, o) :: tl) as := fun p hp b hb => by
  rcases List.mem_cons.mp hp with rfl | hp
  · exact h b hb
  · exact r p hp b hb
theorem if_none {v : Nat → Nat → Int} {ts : List Nat} {S wh j g : Nat} {as : List Addr} {tl : Led} {E : Addr} {o : Obj} {tw : Tok} {C : Tri} (hf : ((cands v ts S wh).take j).foldl (pick wh) none = none) (hg : (goodsOf S)[j]? = some g)
    (hC : tadd (give v wh g) (endOf v ts (S - 2 ^ g)) = C) (hD : DatIn ((E, o) :: tl) (.ref E) (bestDat (some C))) (hoff : OwnOff ((E, o) :: tl) as) : IF v ts S wh as (j + 1) ⟨(E, o) :: tl, .ref E, tw⟩ := by
  refine ⟨?_, hoff⟩
  rw [cands_take hg, List.foldl_append, hf, hC]
  exact hD
theorem if_more {v : Nat → Nat → Int} {ts : List Nat} {S wh j g : Nat} {as : List Addr} {tl : Led} {E : Addr} {o : Obj} {tw : Tok} {B C : Tri} (hf : ((cands v ts S wh).take j).foldl (pick wh) none = some B) (hg : (goodsOf S)[j]? = some g)
    (hC : tadd (give v wh g) (endOf v ts (S - 2 ^ g)) = C) (hlt : val wh B < val wh C) (hD : DatIn ((E, o) :: tl) (.ref E) (bestDat (some C))) (hoff : OwnOff ((E, o) :: tl) as) : IF v ts S wh as (j + 1) ⟨(E, o) :: tl, .ref E, tw⟩ := by
  refine ⟨?_, hoff⟩
  rw [cands_take hg, List.foldl_append, hf, hC]
  show DatIn _ _ (bestDat (pick wh (some B) C))
  unfold pick
  dsimp only
  rw [if_pos hlt]
  exact hD
theorem if_less {v : Nat → Nat → Int} {ts : List Nat} {S wh j g : Nat} {as : List Addr} {tl : Led} {b : Value} {tw : Tok} {B C : Tri} (hf : ((cands v ts S wh).take j).foldl (pick wh) none = some B) (hg : (goodsOf S)[j]? = some g)
    (hC : tadd (give v wh g) (endOf v ts (S - 2 ^ g)) = C) (hlt : ¬ val wh B < val wh C) (hD : DatIn tl b (bestDat (some B))) (hoff : OwnOff tl as) : IF v ts S wh as (j + 1) ⟨tl, b, tw⟩ := by
  refine ⟨?_, hoff⟩
  rw [cands_take hg, List.foldl_append, hf, hC]
  show DatIn _ _ (bestDat (pick wh (some B) C))
  unfold pick
  dsimp only
  rw [if_neg hlt]
  exact hD
section
variable {prog : Program} {w : World} {A : Around} {E : Value → Shared → Prop} {s : Shared} {Q : Value → Shared → Prop} {u : Tok} {h₀ : Heap} {L : Addr} {news : Led}
theorem refs_item {value slice : Expr} {l : Addr} {vs : List Value} {c : Nat} {k : Int} {x : Value} (N : News h₀ L s.heap news) (hm : (l, PySem.W.listOf vs.toArray c) ∈ news)
    (h0 : 0 ≤ k) (h1 : k < 64) (hx : vs[k.toNat]? = some x) (h : Q x s)
    (hs : subscripted slice false (.ref l) (.int k u) = operate [.ref l, .int k u] (getItem (.ref l) (.int k u)) := by with_unfolding_all rfl) :
    wpAny (model prog w) A (subscriptTail value slice (.ref l) (.int k u)) Q E s := by
  have hl : s.heap.IsList l vs.toArray := ⟨_, (N _ hm).1, rfl, c, rfl⟩
  exact tail_any hl.typeIs slot_list_getitem.lookup (wpAny_getItem_list hl h0 (by omega) (by simpa using hx) h) hs
theorem ends_item {value slice : Expr} {l : Addr} {vs : List Value} {c n : Nat} {k : Int} {tl : Led} {v : Nat → Nat → Int} {ts : List Nat} (S : Nat) (N : News h₀ L s.heap news) (hm : (l, PySem.W.listOf vs.toArray c) ∈ news) (hd : DatAll tl vs ((List.range n).map (endD v ts)))
    (hk : k = (S : Int)) (hS : S < n) (hn : n ≤ 64) (htl : ∀ p ∈ tl, p ∈ news)
    (h : ∀ ad cc t1 t2 t3, (ad, ({ cls := .type "tuple", data := .seq #[.int (endOf v ts S).1 t1, .int (endOf v ts S).2.1 t2, .int (endOf v ts S).2.2 t3] cc } : Obj)) ∈ tl → News h₀ L s.heap ((ad, { cls := .type "tuple", data := .seq #[.int (endOf v ts S).1 t1, .int (endOf v ts S).2.1 t2, .int (endOf v ts S).2.2 t3] cc }) :: news) → Q (.ref ad) s)
    (hs : subscripted slice false (.ref l) (.int k u) = operate [.ref l, .int k u] (getItem (.ref l) (.int k u)) := by with_unfolding_all rfl) :
    wpAny (model prog w) A (subscriptTail value slice (.ref l) (.int k u)) Q E s := by
  subst hk
  have hlen : ((List.range n).map (endD v ts)).length = n := by rw [List.length_map, List.length_range]
  refine kd_item (n := c) N hm hd (by omega) (by rw [hlen]; omega) (by omega) (fun v' d hd' _ hv => ?_) hs
  have e : d = endD v ts S := by
    rw [Int.toNat_natCast, List.getElem?_map, List.getElem?_range hS] at hd'
    injection hd' with hd'; exact hd'.symm
  subst e
  obtain ⟨ad, cc, t1, t2, t3, rfl, hmem⟩ := dat3 hv
  exact h ad cc t1 t2 t3 hmem fun p hp => by
    rcases List.mem_cons.mp hp with rfl | hp
    · exact N _ (htl _ hmem)
    · exact N _ hp
end
theorem ys_yes {S k : Nat} {ys : List Value} {t : Tok} (h : IntsAre ys (((List.range k).filter fun g => decide (S / 2 ^ g % 2 = 1)).map fun g : Nat => (g : Int))) (hk : decide (S / 2 ^ k % 2 = 1) = true) :
    IntsAre (ys ++ [.int (k : Int) t]) (((List.range (k + 1)).filter fun g => decide (S / 2 ^ g % 2 = 1)).map fun g : Nat => (g : Int)) := by
  rw [List.range_succ, List.filter_append, List.map_append]
  refine IntsAre.append h ?_
  rw [List.filter_cons, if_pos hk]
  exact .cons _ _ .nil
theorem ys_no {S k : Nat} {ys : List Value} (h : IntsAre ys (((List.range k).filter fun g => decide (S / 2 ^ g % 2 = 1)).map fun g : Nat => (g : Int))) (hk : decide (S / 2 ^ k % 2 = 1) = false) :
    IntsAre ys (((List.range (k + 1)).filter fun g => decide (S / 2 ^ g % 2 = 1)).map fun g : Nat => (g : Int)) := by
  rw [List.range_succ, List.filter_append, List.filter_cons, if_neg (by rw [hk]; exact Bool.false_ne_true), List.filter_nil, List.append_nil]
  exact h
theorem two_lt {k : Nat} (h : k < 5) : 2 ^ k < 100000 := Nat.lt_of_le_of_lt (Nat.pow_le_pow_right (by decide) (Nat.le_of_lt h)) (by decide)
theorem off1_mem {D : Addr} : ∀ {l : Led}, LCg.Off1 D l → ∀ p ∈ l, p.1 ≠ D
  | [], _, _, h => nomatch h
  | _ :: _, x, p, h => by
    rcases List.mem_cons.mp h with rfl | h
    · exact x.1
    · exact off1_mem x.2 p h
theorem finA_of {h₀ : Heap} {L : Addr} {m : Str → Option Value} {s : Shared} {y : Str} {Q : Flow → Shared → Prop} {ys : List Value} {news : Led}
    (h : ∀ D h tk, Fr h₀ L h (fun z => if z = y then some (.ref D) else m z) → News h₀ L h ((D, PySem.W.listOf ys.toArray ys.length) :: news) → (∀ p ∈ news, p.1 ≠ D) → Q .next { s with heap := h, toks := tk }) : LCg.FinA h₀ L m s y Q ys news :=
  fun D h' tk F N o => h D h' tk F N (off1_mem o)
theorem finE_of {h₀ : Heap} {L : Addr} {m : Str → Option Value} {s : Shared} {Q : Value → Shared → Prop} {ys : List Value} {news : Led}
    (h : ∀ D h tk, Fr h₀ L h m → News h₀ L h ((D, PySem.W.listOf ys.toArray ys.length) :: news) → (∀ p ∈ news, p.1 ≠ D) → Q (.ref D) { s with heap := h, toks := tk }) : LCg.FinE h₀ L m s Q ys news :=
  fun D h' tk F N o => h D h' tk F N (off1_mem o)
theorem linesC8_2 : True := by
  k_with "call builtin:len" => (k_here; (with_reducible show wpAny _ _ (call (Value.builtin "len") [Value.ref _]) _ _ _); k_dflt (refine' len_K (by w_strict (k_asm)) (by w_strict (k_mem)) (by w_strict (assumption)) (by w_strict (omega)) ?_; k_whole))
  trivial
local macro_rules | `(tactic| walk_at "exec For Name Name cons nil") => `(tactic| (k_here; (rename Fr _ _ _ _ => lF'); (with_unfolding_all refine' For_invTF lF' ?_ ?k2; (case k2 => intro _; rfl); k_whole)))
theorem linesC8_3 : True := by
  k_with "subscriptTail" => (k_here; (with_reducible show wpAny _ _ (subscriptTail _ _ (Value.ref _) (Value.int _ _)) _ _ _); k_dflt (refine' ints_item (by w_strict (k_asm)) (by w_strict (first | k_mem | (repeat (first | exact List.mem_append.mpr (Or.inr (by assumption)) | refine List.Mem.tail _ ?_)))) (by w_strict (with_reducible assumption)) (by w_strict (omega)) (by w_strict (omega)) (by w_strict (with_reducible assumption)) ?_; k_whole); intro _)
  k_with "subscriptTail" => (k_here; (with_reducible show wpAny _ _ (subscriptTail _ _ (Value.ref _) (Value.int _ _)) _ _ _); k_dflt (refine' refs_item (vs := [_, _]) (by w_strict (k_asm)) (by w_strict (repeat (first | exact List.mem_append.mpr (Or.inr (by assumption)) | exact List.mem_append.mpr (Or.inr (List.mem_append.mpr (Or.inr (by assumption)))) | refine List.Mem.tail _ ?_))) (by w_strict (decide)) (by w_strict (decide)) (by w_strict (rfl)) ?_; k_whole))
  k_with "subscriptTail" => (k_here; (with_reducible show wpAny _ _ (subscriptTail _ _ (Value.ref _) (Value.int (Nat.cast _) _)) _ _ _); k_dflt (refine' ints_itemN (by w_strict (k_asm)) (by w_strict (repeat (first | exact List.mem_append.mpr (Or.inr (by assumption)) | exact List.mem_append.mpr (Or.inr (List.mem_append.mpr (Or.inr (by assumption)))) | refine List.Mem.tail _ ?_))) (by w_strict (with_reducible assumption)) (by w_strict (omega)) (by w_strict (with_reducible assumption)) ?_; k_whole); intro _)
  k_with "subscriptTail" => (k_here; (with_reducible show wpAny _ _ (subscriptTail _ _ (Value.ref _) (Value.int _ _)) _ _ _); k_dflt (refine' ends_item _ (by w_strict (k_asm)) (by w_strict (k_mem)) (by w_strict (with_reducible assumption)) (by w_strict (with_reducible assumption)) (by w_strict (with_reducible assumption)) (by w_strict (omega)) (by w_strict (intro _ hp; repeat (first | exact List.mem_append.mpr (Or.inr (List.mem_append.mpr (Or.inl hp))) | exact List.mem_append.mpr (Or.inl hp) | refine List.Mem.tail _ ?_))) ?_; k_whole); intro _ _ _ _ _ _ _)
  k_with "call builtin:list.append" => (k_here; (with_reducible show wpAny _ _ (call (Value.builtin _) [Value.ref _, _]) _ _ _); k_dflt (refine' append_K (by w_strict (k_asm)) (by w_strict (k_asm)) (by w_strict (k_upd)) ?_ (by w_strict (exact sz_of (by assumption) (by omega))); k_whole); intro _ _ _; (try k_sweep))
  k_with "CompSrcT" => (refine Stop.go ?_)
  k_with "binaryOp Pow int int" => (k_here; first | (refine pow2_nat (by omega) ?_) | (refine pow8_nat (by omega) ?_))
  k_with "binaryOp FloorDiv int int" => (k_here; refine fdiv_nat (Nat.two_pow_pos _) (by omega) (two_lt (by assumption)) ?_)
  k_with "binaryOp Mod int int" => (k_here; refine mod2_nat ?_)
  k_with "compareOp Eq int int" => (k_here; refine eq1_nat rfl ?_)
  trivial
local macro_rules | `(tactic| walk_at "exec For Name Call cons nil") => `(tactic| (k_here; (rename Fr _ _ _ _ => lF'); (with_unfolding_all refine' For_invTF lF' ?_ ?k2; (case k2 => intro _; rfl); k_whole)))
set_option maxRecDepth 100000 in
set_option maxHeartbeats 8000000 in
theorem C_played (w : World) (mean : ExcName → Option Value) (mg mb : Str → Option Value) (v : Nat → Nat → Int) (ts : List Nat) (x : TW) :
  Ct2 w mean mg mb 178 [.ref x.T, .ref x.W] (fun _ news => x.Ok v ts news ∧ Fair v ts) (IntPost8 (endOf v ts 31).1) := by
  unfold Ct2
  intro dp un gd cn cs a ccd cl outer A₀ base h₀ L m news s Q E B F X N T hk pre hd hu ret
  obtain ⟨⟨hT, hW, ha, hb, iT, i0, i1, hv⟩, hF⟩ := pre
  refine wpAny_call ?_
  k_dflt (refine' code_defC ?k1 ?k2 ?k3 ?k4 ?k5 ?kA ?kF ?kK ?k6 ?k7 ?k8 ?k9 ?kB ?kD ?_ ?c2 ?c3 ?c4; (case kA => exact rfl); (case kF => exact rfl); (case kK => assumption); (case k1 => k_asm); (case k2 => k_asm); (case k3 => k_asm); (case k4 => k_asm); (case k5 => k_asm); (case k6 => k_is); (case k7 => k_is); (case k8 => ktr_room); (case k9 => exact BindsTo.of_eq rfl); (case kB => exact rfl); (case kD => decide +kernel); (case c2 => exact rfl); (case c3 => exact rfl); (case c4 => exact rfl); k_whole; intro g' L' h' tk' cells' FG' F' N' Y' B' X' T' l1; (try k_lt l1); k_cells Y'; (try simp only [List.cons_append, List.nil_append] at N'); (try dsimp only); (try k_lift B'); (try k_fold))
  k_steps
  rename_i zo zod zD h1 lD zE h2 lE h3 zF0 zN0 h4 tk4 t₁ u₁ v₁ zR zF zN zX
  have lE' := allLt_mem lE.2.2
  have lD' := allLt_mem lD.2
  have l2' : ∀ p ∈ news, p.1 < L' + 1 := fun p hp => Nat.lt_succ_of_lt (l1 p hp)
  refine fs_range (σ := PS) (fun _ => [(Str.ofString "turns", .ref x.T), (Str.ofString "worth", .ref x.W), (Str.ofString "ends", .ref zE)]) (fun c => (zE, PySem.W.listOf c.ev.toArray c.ce) :: (L' + 1, c.oc) :: (c.tl ++ news)) (PF v ts zE (L' + 1)) ⟨[(zD, { cls := .type "tuple", data := .seq #[.int 0 tk', .int 0 (tk' + 1), .int 0 (tk' + 1 + 1)] })], [.ref zD], 0, zo⟩ rfl zR rfl (n := 31) rfl zF zN ?_ ?_ ?_ (fun _ _ => rfl) ?_ ?_
  · exact List.forall_mem_cons.mpr ⟨.head _, List.forall_mem_cons.mpr ⟨.tail _ (.tail _ (.head _)), List.forall_mem_cons.mpr ⟨.tail _ (.head _), fun p hp => .tail _ (.tail _ (.tail _ hp))⟩⟩⟩
  · kst_all
  · refine ⟨?_, ⟨_, zod⟩, off_one fun a ha => ?_⟩
    · show DatAll _ [.ref zD] [endD v ts 0]
      unfold endD
      rw [endOf_zero hF]
      exact .cons (.tuple (vs := [_, _, _]) (.head _) (.cons (.int _ _) (.cons (.int _ _) (.cons (.int _ _) .nil)))) .nil
    · rcases List.mem_cons.mp ha with rfl | ha
      · exact Nat.ne_of_lt lE.1
      · cases List.mem_singleton.mp ha
        exact Nat.ne_of_gt lD.1
  · intro I hI i v0 c u s' oI hi hv0 hne hf F1 N1
    obtain ⟨t0, rfl⟩ := hv0
    obtain ⟨hf1, ⟨vo, hf2⟩, hf3⟩ := hf
    have iE : @LT.lt Nat _ zE I := hI _ (.head _)
    have iL : @LT.lt Nat _ (L' + 1) I := hI _ (.tail _ (.head _))
    have iN : ∀ q ∈ news, q.1 < I := fun q hq => hI q (.tail _ (.tail _ (.tail _ hq)))
    have iT' : ∀ q ∈ c.tl, q.1 ≠ I := fun q hq => hne q (.tail _ (.tail _ (List.mem_append.mpr (.inl hq))))
    have hoff : OwnOff news [zE, L' + 1, I] := off_of fun b hb => by
      simp only [List.mem_cons, List.not_mem_nil, or_false] at hb
      rcases hb with rfl | rfl | rfl <;> assumption
    have hoff2 : OwnOff c.tl [zE, L' + 1, I] := fun p hp b hb => by
      simp only [List.mem_cons, List.not_mem_nil, or_false] at hb
      rcases hb with rfl | rfl | rfl
      · exact hf3 p hp _ (.head _)
      · exact hf3 p hp _ (.tail _ (.head _))
      · exact iT' p hp
    have hoff3 : OwnOff (c.tl ++ news) [zE, L' + 1, I] := fun p hp b hb => (List.mem_append.mp hp).elim (fun hp => hoff2 p hp b hb) (fun hp => hoff p hp b hb)
    clear zF zN zF0 zN0 zX zR zod hI hne hf3 hoff hoff2
    obtain ⟨S, hS⟩ : ∃ S, S = i + 1 := ⟨_, rfl⟩
    have e1 : (1 + (i : Int)) = (S : Int) := by omega
    rw [e1]
    rw [← hS] at hf1
    have hS31 : S < 32 := by omega
    k_steps
    refine Stop.mk ?_
    refine LCt.CompSrcT.range (n := 5) rfl (by k_asm) (by k_asm) (by assumption) (by decide) rfl (Nat.le_of_ble_eq_true rfl) (fun g1 => restT_range (fun k ys => IntsAre ys (((List.range k).filter fun g => decide (S / 2 ^ g % 2 = 1)).map fun g : Nat => (g : Int))) trivial ?_ ?_ .nil)
    · intro k ys I2 oI2 C2 oC2 D2 m2 h2 tk2 t2 E2 hk2 hy2 hC2 hx2 F2 N2 off2
      k_steps
      all_goals first | rfl | assumption | exact ys_yes hy2 (decide_eq_true (by assumption)) | exact ys_no hy2 (decide_eq_false (by assumption))
    · intro ys hy
      refine finA_of fun D h2 tk2 F2 N2 oD => ?_
      have hy' : IntsAre ys ((goodsOf S).map fun g : Nat => (g : Int)) := hy
      have hl0 : ys.length = (goodsOf S).length := by rw [hy'.length, List.length_map]
      obtain ⟨hg0, hg5⟩ := goodsOf_len S hS31 (by omega)
      have dE : @Ne Nat zE D := oD (zE, _) (by k_mem)
      have dL : @Ne Nat (L' + 1) D := oD (L' + 1, _) (by k_mem)
      have dI : @Ne Nat I D := oD (I, _) (.head _)
      have hoffD : OwnOff (c.tl ++ news) [zE, L' + 1, I, D] := fun p hp b hb => by
        simp only [List.mem_cons, List.not_mem_nil, or_false] at hb
        rcases hb with rfl | rfl | rfl | rfl
        · exact hoff3 p hp _ (.head _)
        · exact hoff3 p hp _ (.tail _ (.head _))
        · exact hoff3 p hp _ (.tail _ (.tail _ (.head _)))
        · exact oD p (.tail _ (.tail _ (.tail _ hp)))
      clear hoff3
      dsimp only
      obtain ⟨wh, hwh⟩ : ∃ wh, wh = ts.getD (5 - (goodsOf S).length) 0 := ⟨_, rfl⟩
      have hw2 : wh < 2 := by
        have hlt : 5 - (goodsOf S).length < ts.length := by rw [hF.len]; omega
        rw [hwh, List.getD_eq_getElem?_getD, List.getElem?_eq_getElem hlt]
        exact hF.two _ (List.getElem_mem hlt)
      have hwx : (ts.map fun p : Nat => (p : Int))[((5 : Int) - ((goodsOf S).length : Int)).toNat]? = some (wh : Int) := by
        have e : ((5 : Int) - ((goodsOf S).length : Int)).toNat = 5 - (goodsOf S).length := by omega
        have hlt : 5 - (goodsOf S).length < ts.length := by rw [hF.len]; omega
        rw [e, List.getElem?_map, hwh, List.getD_eq_getElem?_getD, List.getElem?_eq_getElem hlt]; rfl
      k_steps
      rename Obj => o2
      rename News _ _ _ _ => zN2
      rename Fr _ _ _ _ => zF2
      have hlev : c.ev.length = S := by rw [hf1.length, List.length_map, List.length_range]
      refine' fs_list (σ := IS) (fun c2 => [(Str.ofString "turns", .ref x.T), (Str.ofString "worth", .ref x.W), (Str.ofString "ends", .ref zE), (Str.ofString "who", .int (wh : Int) c2.tw), (Str.ofString "best", c2.b)]) (fun c2 => (D, PySem.W.listOf ys.toArray ys.length) :: (I, oI) :: (zE, PySem.W.listOf c.ev.toArray c.ce) :: (L' + 1, o2) :: (c2.tl ++ (c.tl ++ news))) (IF v ts S wh [zE, L' + 1, I, D]) ⟨[], .none, _⟩ rfl zF2 zN2 (fun _ => .head _) ?hn ?hps ?hf (fun _ _ => rfl) ?turn ?done
      case hps => kst_all
      case hn => exact List.forall_mem_cons.mpr ⟨by k_mem, List.forall_mem_cons.mpr ⟨by k_mem, List.forall_mem_cons.mpr ⟨by k_mem, List.forall_mem_cons.mpr ⟨by k_mem, fun p hp => .tail _ (.tail _ (.tail _ (.tail _ (.tail _ hp))))⟩⟩⟩⟩
      case hf => exact ⟨.none, fun p hp => nomatch hp⟩
      case turn =>
        intro I2 hI2 j v2 c2 u2 s2 oI2 hj hv2 hne2 hf2' F3 N3
        obtain ⟨tl2, b2, tw2⟩ := c2
        obtain ⟨hb1, hb2⟩ := hf2'
        dsimp only at hb1 hb2 hne2 F3 N3
        clear zN2 zF2 F1 N1 hI2
        obtain ⟨g, tg, rfl, hg⟩ : ∃ (g : Nat) (tg : Tok), v2 = .int (g : Int) tg ∧ (goodsOf S)[j]? = some g := by
          obtain ⟨m, tm, e, hm⟩ := hy'.at j v2 (by simpa using hv2)
          rw [List.getElem?_map] at hm
          cases hgj : (goodsOf S)[j]? with
          | none => rw [hgj] at hm; cases hm
          | some g => rw [hgj] at hm; injection hm with hm; exact ⟨g, tm, by rw [e, ← hm], rfl⟩
        have hgm : g ∈ goodsOf S := List.mem_of_getElem? hg
        obtain ⟨hgl, hgb⟩ := goodsOf_mem hgm
        have hle : 2 ^ g ≤ S := by
          rcases Nat.lt_or_ge S (2 ^ g) with h | h
          · rw [Nat.div_eq_of_lt h] at hgb; cases hgb
          · exact h
        have hpos : 0 < 2 ^ g := Nat.two_pow_pos g
        have hlt : S - 2 ^ g < S := by omega
        have hidx : (S : Int) - ((2 ^ g : Nat) : Int) = ((S - 2 ^ g : Nat) : Int) := by omega
        have hx0 : ((List.range 5).map (v 0))[g]? = some (v 0 g) := by rw [List.getElem?_map, List.getElem?_range hgl]; rfl
        have hx1 : ((List.range 5).map (v 1))[g]? = some (v 1 g) := by rw [List.getElem?_map, List.getElem?_range hgl]; rfl
        have jE : @Ne Nat zE I2 := hne2 _ (.tail _ (.tail _ (.head _)))
        have jL : @Ne Nat (L' + 1) I2 := hne2 _ (.tail _ (.tail _ (.tail _ (.head _))))
        have jI : @Ne Nat I I2 := hne2 _ (.tail _ (.head _))
        have jD : @Ne Nat D I2 := hne2 _ (.head _)
        clear hv2 hj hgm hS hl0 hg0 hg5 hy hy' oD hlev e1
        cases hfo : ((cands v ts S wh).take j).foldl (pick wh) none with
        | none =>
          rw [hfo] at hb1
          cases hb1
          rcases (by omega : wh = 0 ∨ wh = 1) with h0 | h0
          · subst h0
            k_steps
            rename News _ _ _ _ => eN
            rename Fr _ _ _ _ => eF
            refine' ts_new (tl2 := tl2) (tw := tw2) eF eN ?zk ?zl ?zi ?zp ?zf
            case zp => kst_all
            case zk => exact List.forall_mem_cons.mpr ⟨by k_mem, List.forall_mem_cons.mpr ⟨by k_mem, fun p hp => nomatch hp⟩⟩
            case zl => exact List.forall_mem_cons.mpr ⟨by k_mem, List.forall_mem_cons.mpr ⟨by k_mem, List.forall_mem_cons.mpr ⟨by k_mem, List.forall_mem_cons.mpr ⟨by k_mem, List.forall_mem_cons.mpr ⟨.head _, fun p hp => by repeat (first | exact hp | refine List.Mem.tail _ ?_)⟩⟩⟩⟩⟩
            case zi => exact List.forall_mem_cons.mpr ⟨hne2 _ (.head _), List.forall_mem_cons.mpr ⟨hne2 _ (.tail _ (.head _)), List.forall_mem_cons.mpr ⟨hne2 _ (.tail _ (.tail _ (.head _))), List.forall_mem_cons.mpr ⟨hne2 _ (.tail _ (.tail _ (.tail _ (.head _)))), List.forall_mem_cons.mpr ⟨by k_ne, fun p hp => hne2 p (.tail _ (.tail _ (.tail _ (.tail _ hp))))⟩⟩⟩⟩⟩
            case zf => exact if_none hfo hg cand0 (.tuple (vs := [_, _, _]) (.head _) (.cons (.int _ _) (.cons (.int _ _) (.cons (.int _ _) .nil)))) (off_cons (fun a ha => by
                          simp only [List.mem_cons, List.not_mem_nil, or_false] at ha
                          rcases ha with rfl | rfl | rfl | rfl <;> k_ne) hb2)
          · subst h0
            k_steps
            rename News _ _ _ _ => eN
            rename Fr _ _ _ _ => eF
            refine' ts_new (tl2 := tl2) (tw := tw2) eF eN ?zk ?zl ?zi ?zp ?zf
            case zp => kst_all
            case zk => exact List.forall_mem_cons.mpr ⟨by k_mem, List.forall_mem_cons.mpr ⟨by k_mem, fun p hp => nomatch hp⟩⟩
            case zl => exact List.forall_mem_cons.mpr ⟨by k_mem, List.forall_mem_cons.mpr ⟨by k_mem, List.forall_mem_cons.mpr ⟨by k_mem, List.forall_mem_cons.mpr ⟨by k_mem, List.forall_mem_cons.mpr ⟨.head _, fun p hp => by repeat (first | exact hp | refine List.Mem.tail _ ?_)⟩⟩⟩⟩⟩
            case zi => exact List.forall_mem_cons.mpr ⟨hne2 _ (.head _), List.forall_mem_cons.mpr ⟨hne2 _ (.tail _ (.head _)), List.forall_mem_cons.mpr ⟨hne2 _ (.tail _ (.tail _ (.head _))), List.forall_mem_cons.mpr ⟨hne2 _ (.tail _ (.tail _ (.tail _ (.head _)))), List.forall_mem_cons.mpr ⟨by k_ne, fun p hp => hne2 p (.tail _ (.tail _ (.tail _ (.tail _ hp))))⟩⟩⟩⟩⟩
            case zf => exact if_none hfo hg cand1 (.tuple (vs := [_, _, _]) (.head _) (.cons (.int _ _) (.cons (.int _ _) (.cons (.int _ _) .nil)))) (off_cons (fun a ha => by
                          simp only [List.mem_cons, List.not_mem_nil, or_false] at ha
                          rcases ha with rfl | rfl | rfl | rfl <;> k_ne) hb2)
        | some B =>
          rw [hfo] at hb1
          obtain ⟨bd, bc, b1, b2', b3, rfl, hbm⟩ := dat3 hb1
          have N4 : News g' L' s2.heap ((bd, { cls := .type "tuple", data := .seq #[.int B.1 b1, .int B.2.1 b2', .int B.2.2 b3] bc }) :: (I2, oI2) :: (D, PySem.W.listOf ys.toArray ys.length) :: (I, oI) :: (zE, PySem.W.listOf c.ev.toArray c.ce) :: (L' + 1, o2) :: (tl2 ++ (c.tl ++ news))) := fun p hp => by
            rcases List.mem_cons.mp hp with rfl | hp
            · exact N3 _ (.tail _ (.tail _ (.tail _ (.tail _ (.tail _ (List.mem_append.mpr (.inl hbm)))))))
            · exact N3 _ hp
          clear N3
          rcases (by omega : wh = 0 ∨ wh = 1) with h0 | h0
          · subst h0
            k_steps
            · rename News _ _ _ _ => eN
              rename Fr _ _ _ _ => eF
              refine' ts_new (tl2 := tl2) (tw := tw2) eF eN ?zk ?zl ?zi ?zp ?zf
              case zp => kst_all
              case zk => exact List.forall_mem_cons.mpr ⟨by k_mem, List.forall_mem_cons.mpr ⟨by k_mem, fun p hp => nomatch hp⟩⟩
              case zl => exact List.forall_mem_cons.mpr ⟨by k_mem, List.forall_mem_cons.mpr ⟨by k_mem, List.forall_mem_cons.mpr ⟨by k_mem, List.forall_mem_cons.mpr ⟨by k_mem, List.forall_mem_cons.mpr ⟨.head _, fun p hp => by repeat (first | exact hp | refine List.Mem.tail _ ?_)⟩⟩⟩⟩⟩
              case zi => exact List.forall_mem_cons.mpr ⟨hne2 _ (.head _), List.forall_mem_cons.mpr ⟨hne2 _ (.tail _ (.head _)), List.forall_mem_cons.mpr ⟨hne2 _ (.tail _ (.tail _ (.head _))), List.forall_mem_cons.mpr ⟨hne2 _ (.tail _ (.tail _ (.tail _ (.head _)))), List.forall_mem_cons.mpr ⟨by k_ne, fun p hp => hne2 p (.tail _ (.tail _ (.tail _ (.tail _ hp))))⟩⟩⟩⟩⟩
              case zf => exact if_more hfo hg cand0 (by assumption) (.tuple (vs := [_, _, _]) (.head _) (.cons (.int _ _) (.cons (.int _ _) (.cons (.int _ _) .nil)))) (off_cons (fun a ha => by
                              simp only [List.mem_cons, List.not_mem_nil, or_false] at ha
                              rcases ha with rfl | rfl | rfl | rfl <;> k_ne) hb2)
            · rename News _ _ _ _ => eN
              rename Fr _ _ _ _ => eF
              refine' TS.intro ⟨tl2, .ref bd, tw2⟩ eF eN ?zk ?zl ?zi ?zp ?zf
              case zp => kst_all
              case zk => exact List.forall_mem_cons.mpr ⟨by k_mem, List.forall_mem_cons.mpr ⟨by k_mem, fun p hp => nomatch hp⟩⟩
              case zl => exact List.forall_mem_cons.mpr ⟨by k_mem, List.forall_mem_cons.mpr ⟨by k_mem, List.forall_mem_cons.mpr ⟨by k_mem, List.forall_mem_cons.mpr ⟨by k_mem, fun p hp => by repeat (first | exact hp | refine List.Mem.tail _ ?_)⟩⟩⟩⟩
              case zi => exact hne2
              case zf => exact if_less hfo hg cand0 (by assumption) (.tuple (vs := [_, _, _]) hbm (.cons (.int _ _) (.cons (.int _ _) (.cons (.int _ _) .nil)))) hb2
          · subst h0
            k_steps
            · rename News _ _ _ _ => eN
              rename Fr _ _ _ _ => eF
              refine' ts_new (tl2 := tl2) (tw := tw2) eF eN ?zk ?zl ?zi ?zp ?zf
              case zp => kst_all
              case zk => exact List.forall_mem_cons.mpr ⟨by k_mem, List.forall_mem_cons.mpr ⟨by k_mem, fun p hp => nomatch hp⟩⟩
              case zl => exact List.forall_mem_cons.mpr ⟨by k_mem, List.forall_mem_cons.mpr ⟨by k_mem, List.forall_mem_cons.mpr ⟨by k_mem, List.forall_mem_cons.mpr ⟨by k_mem, List.forall_mem_cons.mpr ⟨.head _, fun p hp => by repeat (first | exact hp | refine List.Mem.tail _ ?_)⟩⟩⟩⟩⟩
              case zi => exact List.forall_mem_cons.mpr ⟨hne2 _ (.head _), List.forall_mem_cons.mpr ⟨hne2 _ (.tail _ (.head _)), List.forall_mem_cons.mpr ⟨hne2 _ (.tail _ (.tail _ (.head _))), List.forall_mem_cons.mpr ⟨hne2 _ (.tail _ (.tail _ (.tail _ (.head _)))), List.forall_mem_cons.mpr ⟨by k_ne, fun p hp => hne2 p (.tail _ (.tail _ (.tail _ (.tail _ hp))))⟩⟩⟩⟩⟩
              case zf => exact if_more hfo hg cand1 (by assumption) (.tuple (vs := [_, _, _]) (.head _) (.cons (.int _ _) (.cons (.int _ _) (.cons (.int _ _) .nil)))) (off_cons (fun a ha => by
                              simp only [List.mem_cons, List.not_mem_nil, or_false] at ha
                              rcases ha with rfl | rfl | rfl | rfl <;> k_ne) hb2)
            · rename News _ _ _ _ => eN
              rename Fr _ _ _ _ => eF
              refine' TS.intro ⟨tl2, .ref bd, tw2⟩ eF eN ?zk ?zl ?zi ?zp ?zf
              case zp => kst_all
              case zk => exact List.forall_mem_cons.mpr ⟨by k_mem, List.forall_mem_cons.mpr ⟨by k_mem, fun p hp => nomatch hp⟩⟩
              case zl => exact List.forall_mem_cons.mpr ⟨by k_mem, List.forall_mem_cons.mpr ⟨by k_mem, List.forall_mem_cons.mpr ⟨by k_mem, List.forall_mem_cons.mpr ⟨by k_mem, fun p hp => by repeat (first | exact hp | refine List.Mem.tail _ ?_)⟩⟩⟩⟩
              case zi => exact hne2
              case zf => exact if_less hfo hg cand1 (by assumption) (.tuple (vs := [_, _, _]) hbm (.cons (.int _ _) (.cons (.int _ _) (.cons (.int _ _) .nil)))) hb2
      case done =>
        intro c2 u2 h3 tk3 hf3' F3 N3
        obtain ⟨tl2, b2, tw2⟩ := c2
        obtain ⟨hb1, hb2⟩ := hf3'
        dsimp only at hb1 hb2 F3 N3
        have hcs : (cands v ts S wh).take ys.toArray.size = cands v ts S wh := List.take_of_length_le (by unfold cands; rw [List.length_map, List.size_toArray, hl0]; exact Nat.le_refl _)
        have hpl : (cands v ts S wh).foldl (pick wh) none = some (endOf v ts S) := by rw [hwh]; exact played_best v ts hF (by omega) hS31
        rw [hcs, hpl] at hb1
        have hb3 : DatIn tl2 b2 (endD v ts S) := hb1
        have hoff4 : OwnOff (tl2 ++ (c.tl ++ news)) [zE, L' + 1, I, D] := fun p hp b hb => (List.mem_append.mp hp).elim (fun hp => hb2 p hp b hb) (fun hp => hoffD p hp b hb)
        clear zN2 zF2 F1 N1 hb1 hcs hpl hy hy' oD e1 hl0 hwx
        dsimp only
        k_steps
        rename News _ _ _ _ => eN
        rename Fr _ _ _ _ => eF
        simp only [List.push_toArray] at eN
        refine TS.intro (⟨tl2 ++ c.tl, c.ev ++ [b2], c.ce + 1, o2⟩ : PS) eF eN (fun p hp => by cases List.mem_singleton.mp hp; k_mem) (List.forall_mem_cons.mpr ⟨by k_mem, List.forall_mem_cons.mpr ⟨by k_mem, fun p hp => by
          rw [List.append_assoc] at hp
          repeat (first | exact hp | refine List.Mem.tail _ ?_)⟩⟩) (List.forall_mem_cons.mpr ⟨Nat.ne_of_lt iE, List.forall_mem_cons.mpr ⟨Nat.ne_of_lt iL, fun p hp => by
          rw [List.append_assoc] at hp
          exact hoff4 p hp _ (.tail _ (.tail _ (.head _)))⟩⟩) (by kst_all) ⟨?_, ⟨_, by assumption⟩, fun p hp b hb => ?_⟩
        · exact pf_more hS (hf1.mono fun p hp => List.mem_append.mpr (.inr hp)) (hb3.mono fun p hp => List.mem_append.mpr (.inl hp))
        · rcases List.mem_append.mp hp with hp | hp
          · exact hb2 p hp b (by
              rcases List.mem_cons.mp hb with rfl | hb
              · exact .head _
              · cases List.mem_singleton.mp hb; exact .tail _ (.head _))
          · exact hoffD p (List.mem_append.mpr (.inl hp)) b (by
              rcases List.mem_cons.mp hb with rfl | hb
              · exact .head _
              · cases List.mem_singleton.mp hb; exact .tail _ (.head _))
  · intro c u h tk hf F1 N1
    obtain ⟨hf1, ⟨vo, hf2⟩, hf3⟩ := hf
    have h31 : (31 : Int) = ((31 : Nat) : Int) := rfl
    have h32 : 31 < 31 + 1 := by decide
    clear zF zN zF0 zN0 zX zR zod
    dsimp only
    k_steps
    rename Fr h₀ L _ _ => eF
    rename News h₀ L _ _ => eN
    exact ret _ [] _ _ eF (news_sub (l' := news) eN (fun p hp => by repeat (first | exact List.mem_append.mpr (.inr hp) | refine List.Mem.tail _ ?_))) lt_nil ⟨rfl, _, rfl⟩
theorem linesC8_end : True := by
  k_with_none
  trivial
end Mine
end
section
open PySem PySem.W PyProof.Rows PySem.Calls PySem.Spec
namespace Mine
/-- the same, without a word on where the new objects lie; a contract of a def at f: called with vs, where Pre holds of the base and the ledger, it hands back r with new objects tl, Post -/
noncomputable def Ct3 (w : World) (mean : ExcName → Option Value) (mg mb : Str → Option Value) (f : Addr) (vs : List Value) (Pre : Heap → Led → Prop) (Post : Led → Value → Prop) : Prop :=
  ∀ (dp un : Nat) (gd : Option (List Code)) (cn : Str) (cs : Scope) (a : Addr) (ccd : Value) (cl : List (Str × Addr)) (outer : List Env) (A₀ : Around) (base h₀ : Heap) (L : Addr) (m : Str → Option Value) (news : Led) (s : Shared) (Q E : Value → Shared → Prop),
    Below A₀ base outer h₀ → Fr h₀ L s.heap m → (K w.params).In h₀ → News h₀ L s.heap news → Top vw (looseW vw looseN) mean mg mb h₀ → cs.kind = .function → Pre base news → dp + 20 < recursionLimit → un + 200 < cLine →
    (∀ r tl h' tk', Fr h₀ L h' m → News h₀ L h' (tl ++ news) → Post tl r → Q r { s with heap := h', toks := tk' }) →
    wpAny (model PySem.Challenge.pw_wk0036_01 w) (ktrTop dp un gd cn cs L a ccd cl outer) (call (.ref f) vs) Q E s
theorem Ct3.use {w : World} {mean : ExcName → Option Value} {mg mb : Str → Option Value} {f : Addr} {vs : List Value} {Pre : Heap → Led → Prop} {Post : Led → Value → Prop} (C : Ct3 w mean mg mb f vs Pre Post)
    {dp un : Nat} {gd : Option (List Code)} {cn : Str} {cs : Scope} {a : Addr} {ccd : Value} {cl : List (Str × Addr)} {outer : List Env} {A₀ : Around} {base h₀ : Heap} {L : Addr} {m : Str → Option Value} {news : Led} {s : Shared} {Q E : Value → Shared → Prop}
    (B : Below A₀ base outer h₀) (F : Fr h₀ L s.heap m) (X : (K w.params).In h₀) (N : News h₀ L s.heap news) (T : Top vw (looseW vw looseN) mean mg mb h₀) (hk : cs.kind = .function) (hp : Pre base news) (hd : dp + 20 < recursionLimit) (hu : un + 200 < cLine)
    (ret : ∀ r tl h' tk', Fr h₀ L h' m → News h₀ L h' (tl ++ news) → Post tl r → Q r { s with heap := h', toks := tk' }) :
    wpAny (model PySem.Challenge.pw_wk0036_01 w) (ktrTop dp un gd cn cs L a ccd cl outer) (call (.ref f) vs) Q E s := C _ _ _ _ _ _ _ _ _ _ _ _ _ _ _ _ _ _ B F X N T hk hp hd hu ret
theorem Ct2.weak {w : World} {mean : ExcName → Option Value} {mg mb : Str → Option Value} {f : Addr} {vs : List Value} {Pre : Heap → Led → Prop} {Post : Led → Value → Prop} (C : Ct2 w mean mg mb f vs Pre Post) : Ct3 w mean mg mb f vs Pre Post :=
  fun dp un gd cn cs a ccd cl outer A₀ base h₀ L m news s Q E B F X N T hk hp hd hu ret => C dp un gd cn cs a ccd cl outer A₀ base h₀ L m news s Q E B F X N T hk hp hd hu fun r tl h' tk' F' N' _ P => ret r tl h' tk' F' N' P
structure XS where
  lv : List Value
  s0v : List Value
  s1v : List Value
  cl : Nat
  k0 : Nat
  k1 : Nat
  oc : Obj
noncomputable abbrev nints (l : List Nat) : List Int := l.map fun x : Nat => (x : Int)
noncomputable def XF (v : Nat → Nat → Int) (ts : List Nat) (i : Nat) (c : XS) : Prop :=
  IntsAre c.lv (nints (crossN v (ts.reverse.take i)).l) ∧ IntsAre c.s0v (nints (crossN v (ts.reverse.take i)).s0) ∧ IntsAre c.s1v (nints (crossN v (ts.reverse.take i)).s1) ∧ ∃ vo, c.oc.data = .cell vo
theorem crossN_more {v : Nat → Nat → Int} {ts : List Nat} {i p : Nat} (h : ts.reverse[i]? = some p) : crossN v (ts.reverse.take (i + 1)) = stepC v (crossN v (ts.reverse.take i)) p := by
  unfold crossN
  rw [List.take_add_one, h, List.foldl_append]; rfl
theorem crossN_l {v : Nat → Nat → Int} {ts : List Nat} {i : Nat} (hl : ts.length = 5) (hi : i < 5) : (crossN v (ts.reverse.take i)).l.length + i = 5 ∧ (∀ g ∈ (crossN v (ts.reverse.take i)).l, g < 5) ∧ (crossN v (ts.reverse.take i)).l.Nodup ∧ (crossN v (ts.reverse.take i)).s0.length ≤ 5 ∧ (crossN v (ts.reverse.take i)).s1.length ≤ 5 := by
  have hlen : (ts.reverse.take i).length = i := by rw [List.length_take, List.length_reverse, hl]; omega
  obtain ⟨h1, h2⟩ := foldC_perm v (ts.reverse.take i) ⟨[0, 1, 2, 3, 4], [], []⟩ (by rw [hlen]; show i ≤ 5; omega)
  rw [hlen] at h2
  have h3 : ∀ g ∈ (crossN v (ts.reverse.take i)).l, g ∈ [0, 1, 2, 3, 4] := fun g hg => (h1.mem_iff).mp (List.mem_append.mpr (.inr hg))
  have h4 := h1.length_eq
  simp only [List.length_append] at h4
  have h4' : (crossN v (ts.reverse.take i)).s0.length + (crossN v (ts.reverse.take i)).s1.length + (crossN v (ts.reverse.take i)).l.length = 5 := h4
  refine ⟨h2, fun g hg => ?_, ?_, by omega, by omega⟩
  · have := h3 g hg
    simp only [List.mem_cons, List.not_mem_nil, or_false] at this
    omega
  · have hn : ([] ++ [] ++ [0, 1, 2, 3, 4] : List Nat).Nodup := by decide
    exact (List.nodup_append.mp (h1.nodup_iff.mpr hn)).2.1
section
variable {prog : Program} {w : World} {A : Around} {E : Value → Shared → Prop} {s : Shared} {Q : Value → Shared → Prop} {u : Tok} {h₀ : Heap} {L : Addr} {m : Str → Option Value} {news : Led}
theorem min_arg {l : Addr} {vs : List Value} {c : Nat} {f : Nat → Int} {gs : List Nat} (hh : A.handled = none) (F : Fr h₀ L s.heap m) (N : News h₀ L s.heap news) (hm : (l, PySem.W.listOf vs.toArray c) ∈ news) (hi : IntsAre vs (gs.map f)) (hne : gs ≠ [])
    (h : ∀ h' (t : Tok) tk, Fr h₀ L h' m → News h₀ L h' news → Q (.int (f (argmin f gs)) t) { s with heap := h', toks := tk }) : wpAny (model prog w) A (call (.builtin "min") [.ref l]) Q E s := by
  refine min_list_N hh F N ⟨_, (N _ hm).1, rfl, c, rfl⟩ hi (by rw [List.length_map]; exact List.length_pos_iff.mpr hne) fun h' M t tk F' N' hM hle => ?_
  have e : M = f (argmin f gs) := by
    obtain ⟨g, hg, rfl⟩ := List.mem_map.mp hM
    exact Int.le_antisymm (hle _ (List.mem_map.mpr ⟨_, argmin_mem hne, rfl⟩)) (argmin_le g hg)
  rw [e]
  exact h h' t tk F' N'
theorem mod5_good {a : Int} {g : Nat} {t u : Tok} (h5 : a % 5 = (g : Int) % 5) (hg : g < 5) (h : Q (.int (g : Int) s.toks) { s with toks := s.toks + 1 }) : wpAny (model prog w) A (binaryOp .Mod (.int a t) (.int 5 u)) Q E s := by
  refine mod_int (by decide) ?_
  rw [Int.fmod_eq_emod_of_nonneg _ (by decide), h5]
  have : (g : Int) % 5 = (g : Int) := by omega
  rw [this]; exact h
end
theorem ints_nat {vs : List Value} {l : List Nat} {k : Nat} {v : Value} (h : IntsAre vs (nints l)) (hv : vs[k]? = some v) : ∃ (g : Nat) (t : Tok), v = .int (g : Int) t ∧ l[k]? = some g := by
  obtain ⟨n, tm, e, hm⟩ := h.at k v hv
  rw [List.getElem?_map] at hm
  cases hgj : l[k]? with
  | none => rw [hgj] at hm; cases hm
  | some g => rw [hgj] at hm; injection hm with hm; exact ⟨g, tm, by rw [e, ← hm], rfl⟩
theorem take_more {ys : List Value} {l : List Nat} {k g : Nat} {f : Nat → Int} {t : Tok} (h : IntsAre ys ((l.take k).map f)) (hg : l[k]? = some g) : IntsAre (ys ++ [.int (f g) t]) ((l.take (k + 1)).map f) := by
  rw [List.take_add_one, hg, List.map_append]
  exact IntsAre.append h (.cons _ _ .nil)
theorem xf_more0 {v : Nat → Nat → Int} {ts l s0 s1 : List Nat} {i cl k0 k1 : Nat} {lv s0v s1v : List Value} {oc : Obj} {t : Tok} {vo : Option Value} (h1 : IntsAre lv (nints (l.erase (argmin (v 1) l)))) (h2 : IntsAre s0v (nints s0)) (h3 : IntsAre s1v (nints s1))
    (hm : crossN v (ts.reverse.take (i + 1)) = stepC v ⟨l, s0, s1⟩ 0) (hoc : oc.data = .cell vo) : XF v ts (i + 1) ⟨lv, s0v ++ [.int ((argmin (v 1) l : Nat) : Int) t], s1v, cl, k0, k1, oc⟩ := by
  unfold XF
  rw [hm]
  refine ⟨h1, ?_, h3, _, hoc⟩
  show IntsAre (s0v ++ [.int ((argmin (v 1) l : Nat) : Int) t]) (nints (s0 ++ [argmin (v 1) l]))
  unfold nints
  rw [List.map_append]
  exact IntsAre.append h2 (.cons _ _ .nil)
theorem xf_more1 {v : Nat → Nat → Int} {ts l s0 s1 : List Nat} {i cl k0 k1 : Nat} {lv s0v s1v : List Value} {oc : Obj} {t : Tok} {vo : Option Value} (h1 : IntsAre lv (nints (l.erase (argmin (v 0) l)))) (h2 : IntsAre s0v (nints s0)) (h3 : IntsAre s1v (nints s1))
    (hm : crossN v (ts.reverse.take (i + 1)) = stepC v ⟨l, s0, s1⟩ 1) (hoc : oc.data = .cell vo) : XF v ts (i + 1) ⟨lv, s0v, s1v ++ [.int ((argmin (v 0) l : Nat) : Int) t], cl, k0, k1, oc⟩ := by
  unfold XF
  rw [hm]
  refine ⟨h1, h2, ?_, _, hoc⟩
  show IntsAre (s1v ++ [.int ((argmin (v 0) l : Nat) : Int) t]) (nints (s1 ++ [argmin (v 0) l]))
  unfold nints
  rw [List.map_append]
  exact IntsAre.append h3 (.cons _ _ .nil)
theorem crossN_l5 {v : Nat → Nat → Int} {ts : List Nat} (hl : ts.length = 5) : (crossN v ts.reverse).l = [] ∧ ((crossN v ts.reverse).s0 ++ (crossN v ts.reverse).s1).Perm [0, 1, 2, 3, 4] ∧ (crossN v ts.reverse).s0.length + (crossN v ts.reverse).s1.length = 5 ∧ (crossN v ts.reverse).s0.length ≤ 5 ∧ (crossN v ts.reverse).s1.length ≤ 5 := by
  obtain ⟨h1, h2⟩ := foldC_perm v ts.reverse ⟨[0, 1, 2, 3, 4], [], []⟩ (by rw [List.length_reverse, hl]; exact Nat.le_refl 5)
  rw [List.length_reverse, hl] at h2
  have h3 : (crossN v ts.reverse).l = [] := List.length_eq_zero_iff.mp (by
    have : (crossN v ts.reverse).l.length + 5 = 5 := h2
    omega)
  have h4 : ((crossN v ts.reverse).s0 ++ (crossN v ts.reverse).s1 ++ (crossN v ts.reverse).l).Perm [0, 1, 2, 3, 4] := h1
  rw [h3, List.append_nil] at h4
  have h5 := h4.length_eq
  rw [List.length_append] at h5
  have h6 : (crossN v ts.reverse).s0.length + (crossN v ts.reverse).s1.length = 5 := h5
  exact ⟨h3, h4, h6, by omega, by omega⟩
theorem compEnd1 {h₀ : Heap} {L I C D X : Addr} {m : Str → Option Value} {s₁ : Shared} {oI oC oD o : Obj} {S : List (Addr × Obj) → Prop} {rest : Value → List (Addr × Obj) → Prop} {y : Value} {h' : Heap} {tk : Nat} {OLD : Led}
    (F : Fr h₀ L h' m) (N : News h₀ L h' ((X, o) :: (I, oI) :: (C, oC) :: (D, oD) :: OLD)) (off : LCg.Off3 I C D OLD) (hX : ∀ q ∈ (I, oI) :: (C, oC) :: (D, oD) :: OLD, q.1 < X) (hS : S ((X, o) :: OLD)) (r : rest y ((X, o) :: OLD)) :
    LCg.CompEnd h₀ L m s₁ I oI C oC D oD S rest y { s₁ with heap := h', toks := tk } := by
  refine LCg.CompEnd.intro F N ((X, o) :: OLD) (fun p hp => ?_) ⟨⟨Nat.ne_of_gt (hX _ (.head _)), Nat.ne_of_gt (hX _ (.tail _ (.head _))), Nat.ne_of_gt (hX _ (.tail _ (.tail _ (.head _))))⟩, off⟩ hS r
  rcases List.mem_cons.mp hp with rfl | hp
  · exact .tail _ (.head _)
  · rcases List.mem_cons.mp hp with rfl | hp
    · exact .tail _ (.tail _ (.head _))
    · rcases List.mem_cons.mp hp with rfl | hp
      · exact .tail _ (.tail _ (.tail _ (.head _)))
      · rcases List.mem_cons.mp hp with rfl | hp
        · exact .head _
        · exact .tail _ (.tail _ (.tail _ (.tail _ hp)))
noncomputable def CrossedPost (v : Nat → Nat → Int) (ts : List Nat) (tl : Led) (r : Value) : Prop := ∃ (X p q : Addr) (cx cp cq : Nat) (pv qv : List Value) (n0 n1 : List Int), r = .ref X ∧ tl = [(X, PySem.W.listOf #[.ref p, .ref q] cx), (p, PySem.W.listOf pv.toArray cp), (q, PySem.W.listOf qv.toArray cq)] ∧
  IntsAre pv n0 ∧ IntsAre qv n1 ∧ n0.Pairwise (· ≤ ·) ∧ n1.Pairwise (· ≤ ·) ∧ n0.Perm ((crossN v ts.reverse).s0.map fun x : Nat => (x : Int)) ∧ n1.Perm ((crossN v ts.reverse).s1.map fun x : Nat => (x : Int))
local macro_rules | `(tactic| walk_at "exec For Name Subscript cons nil") => `(tactic| (k_here; (rename Fr _ _ _ _ => lF'); (with_unfolding_all refine' For_invTF lF' ?_ ?k2; (case k2 => intro _; rfl); k_whole)))
theorem isl {h₀ h : Heap} {L l : Addr} {news : Led} {vs : Array Value} {c : Nat} (N : News h₀ L h news) (hm : (l, PySem.W.listOf vs c) ∈ news) : h.IsList l vs := ⟨_, (N _ hm).1, rfl, c, rfl⟩
theorem linesC9_1 : True := by
  k_with "subscriptTail Name Slice ref ref" => (k_here; k_dflt (refine' krv_ints (by w_strict (k_asm)) (by w_strict (k_asm)) (by w_strict (exact isl (by k_asm) (by k_mem))) (by w_strict (exact IsPart.int _ _)) (by w_strict (with_reducible assumption)) ?_ (by w_strict (with_unfolding_all rfl)) (by w_strict (kmk_pure)) (by w_strict (exact sz_of (by assumption) (by decide)))); intro _ _ _ _ _ l1 _ _; (try k_lt l1); (try k_sweep); (try (revert l1; intro _)))
  k_with "eval ListComp" => (k_here; k_dflt (refine LCg.ListComp_U (F₀ := by k_asm) (by with_unfolding_all rfl) (by decide) (by rfl) (by decide) (by rfl) ?_); k_dflt lcg_toSrc)
  k_with "subscriptTail" => (k_here; (with_reducible show wpAny _ _ (subscriptTail _ _ (Value.ref _) (Value.int _ _)) _ _ _); k_dflt (refine' refs_item (vs := [_, _]) (by w_strict (k_asm)) (by w_strict (k_mem)) (by w_strict (decide)) (by w_strict (decide)) (by w_strict (rfl)) ?_; k_whole))
  k_with "subscriptTail" => (k_here; (with_reducible show wpAny _ _ (subscriptTail _ _ (Value.ref _) (Value.int (Nat.cast _) _)) _ _ _); k_dflt (refine' ints_itemN (by w_strict (k_asm)) (by w_strict (k_mem)) (by w_strict (with_reducible assumption)) (by w_strict (omega)) (by w_strict (with_reducible assumption)) ?_; k_whole); intro _)
  k_with "call builtin:min" => (k_here; k_dflt (refine' min_arg (by w_strict (rfl)) (by w_strict (k_asm)) (by w_strict (k_asm)) (by w_strict (k_mem)) (by w_strict (with_reducible assumption)) (by w_strict (assumption)) ?_; k_whole); intro _ _ _ _ _)
  k_with "binaryOp Mod int int" => (k_here; refine mod5_good (by assumption) (by assumption) ?_)
  k_with "call builtin:list.remove" => (k_here; k_dflt (refine' remove_K (by w_strict (k_asm)) (by w_strict (k_asm)) (by w_strict (k_updF)) (by w_strict (with_reducible assumption)) (by w_strict (assumption)) (by w_strict (omega)) ?_; k_whole); intro _ _ _ _ N' _; (try dsimp only at N'); (try (revert N'; intro _)))
  k_with "call builtin:list.append" => (k_here; (with_reducible show wpAny _ _ (call (Value.builtin _) [Value.ref _, _]) _ _ _); k_dflt (refine' append_K (by w_strict (k_asm)) (by w_strict (k_asm)) (by w_strict (k_upd)) ?_ (by w_strict (exact sz_le (by assumption))); k_whole); intro _ _ _; (try k_sweep))
  trivial
theorem sz_le {l : List Value} (h : l.length ≤ 64) : l.toArray.size ≤ sizeLine := by
  rw [List.size_toArray, sizeLine_eq]; omega
theorem linesC9_2 : True := by
  k_with "call builtin:sorted" => (k_here; (with_reducible show wpAny _ _ (call (Value.builtin _) [Value.ref _]) _ _ _); k_dflt (refine' kso_sorted (by w_strict (k_asm)) (by w_strict (k_asm)) (by w_strict (exact isl (by k_asm) (by k_mem))) (by w_strict (with_reducible assumption)) (by w_strict (first | omega | (simp only [List.length_map]; omega))) ?_; k_whole); intro _ _ _ _ _ _ _ _ _ e' _ _ b'; clear b' e')
  k_with "CompEnd" => (refine Stop.go ?_)
  k_with "CompSrc" => (refine Stop.go ?_)
  trivial
set_option maxRecDepth 100000 in
set_option maxHeartbeats 8000000 in
theorem C_crossed (w : World) (mean : ExcName → Option Value) (mg mb : Str → Option Value) (v : Nat → Nat → Int) (ts : List Nat) (x : TW) :
  Ct3 w mean mg mb 183 [.ref x.T, .ref x.W] (fun _ news => x.Ok v ts news ∧ Fair v ts ∧ ∀ p g, g < 5 → v p g % 5 = g % 5) (CrossedPost v ts) := by
  unfold Ct3
  intro dp un gd cn cs a ccd cl outer A₀ base h₀ L m news s Q E B F X N T hk pre hd hu ret
  obtain ⟨⟨hT, hW, ha, hb, iT, i0, i1, hv⟩, hF, h5⟩ := pre
  have htl : x.tv.length = 5 := by rw [iT.length, List.length_map, hF.len]
  have N4 : News h₀ L s.heap ((x.T, PySem.W.listOf x.tv.toArray x.ct) :: (x.W, PySem.W.listOf #[.ref x.a, .ref x.b] x.cw) :: (x.a, PySem.W.listOf x.w0.toArray x.c0) :: (x.b, PySem.W.listOf x.w1.toArray x.c1) :: news) := fun p hp => by
    simp only [List.mem_cons] at hp
    rcases hp with rfl | rfl | rfl | rfl | hp
    · exact N _ hT
    · exact N _ hW
    · exact N _ ha
    · exact N _ hb
    · exact N p hp
  clear N hT hW ha hb
  refine wpAny_call ?_
  k_dflt (refine' code_defC ?k1 ?k2 ?k3 ?k4 ?k5 ?kA ?kF ?kK ?k6 ?k7 ?k8 ?k9 ?kB ?kD ?_ ?c2 ?c3 ?c4; (case kA => exact rfl); (case kF => exact rfl); (case kK => assumption); (case k1 => k_asm); (case k2 => k_asm); (case k3 => k_asm); (case k4 => k_asm); (case k5 => k_asm); (case k6 => k_is); (case k7 => k_is); (case k8 => ktr_room); (case k9 => exact BindsTo.of_eq rfl); (case kB => exact rfl); (case kD => decide +kernel); (case c2 => exact rfl); (case c3 => exact rfl); (case c4 => exact rfl); k_whole; intro g' L' h' tk' cells' FG' F' N' Y' B' X' T' l1; (try k_lt l1); k_cells Y'; (try simp only [List.cons_append, List.nil_append] at N'); (try dsimp only); (try k_lift B'); (try k_fold))
  k_steps
  rename_i zo1 zo2 zd1 zd2 zL h1 lL z0 h2 l0 z1 h3 l2 zS h4 lS zD h5' lD hA9 hB9 hC9 zR ws h6 zF zN hI hC lR
  have hcw : zo2.data = .cell (some (.ref x.W)) := zd2
  have lL' := allLt_mem lL.2.2.2.2.2.2
  have l0' := allLt_mem l0.2.2.2.2.2.2.2
  have l2' := allLt_mem l2.2.2.2.2.2.2.2.2
  have lc' : ∀ p ∈ news, p.1 < L' + 1 + 1 := fun p hp => Nat.lt_succ_of_lt (Nat.lt_succ_of_lt (allLt_mem l1.2.2.2.2 p hp))
  refine fs_list (σ := XS) (fun _ => [(Str.ofString "left", .ref zL), (Str.ofString "shares", .ref zS)]) (fun c => (zR, PySem.W.listOf ws.toArray 0) :: (zS, PySem.W.listOf #[.ref z0, .ref z1] 0) :: (zL, PySem.W.listOf c.lv.toArray c.cl) :: (z0, PySem.W.listOf c.s0v.toArray c.k0) :: (z1, PySem.W.listOf c.s1v.toArray c.k1) :: (L' + 1 + 1, c.oc) :: (L' + 1, zo2) :: (x.W, PySem.W.listOf #[.ref x.a, .ref x.b] x.cw) :: (x.a, PySem.W.listOf x.w0.toArray x.c0) :: (x.b, PySem.W.listOf x.w1.toArray x.c1) :: news) (XF v ts) ⟨[.int 0 tk', .int 1 (tk' + 1), .int 2 (tk' + 1 + 1), .int 3 (tk' + 1 + 1 + 1), .int 4 (tk' + 1 + 1 + 1 + 1)], [], [], 0, 0, 0, zo1⟩ rfl zF zN (fun _ => .head _) ?_ ?_ ?_ (fun _ _ => rfl) ?_ ?_
  · simp only [List.forall_mem_cons]
    refine ⟨by k_mem, by k_mem, by k_mem, by k_mem, by k_mem, by k_mem, by k_mem, by k_mem, by k_mem, by k_mem, fun p hp => ?_⟩
    repeat (first | exact hp | refine List.Mem.tail _ ?_)
  · kst_all
  · exact ⟨.cons _ _ (.cons _ _ (.cons _ _ (.cons _ _ (.cons _ _ .nil)))), .nil, .nil, _, zd1⟩
  · intro I hI0 i v0 c u s' oI hi hv0 hne hf F1 N1
    obtain ⟨lv, s0v, s1v, cl, k0, k1, oc⟩ := c
    obtain ⟨hf1, hf2, hf3, vo, hf4⟩ := hf
    dsimp only at hf1 hf2 hf3 hf4 F1 N1 hne
    have hw5 : ws.length = 5 := by rw [hI.length, List.length_reverse, List.length_map, hF.len]
    have hi5 : i < 5 := by rw [← hw5]; simpa using hi
    obtain ⟨p, tp, rfl, hp⟩ : ∃ (p : Nat) (tp : Tok), v0 = .int (p : Int) tp ∧ ts.reverse[i]? = some p := by
      obtain ⟨n, tm, e, hm⟩ := hI.at i v0 (by simpa using hv0)
      rw [← List.map_reverse, List.getElem?_map] at hm
      cases hgj : ts.reverse[i]? with
      | none => rw [hgj] at hm; cases hm
      | some g => rw [hgj] at hm; injection hm with hm; exact ⟨g, tm, by rw [e, ← hm], rfl⟩
    have hp2 : p < 2 := hF.two p (List.mem_reverse.mp (List.mem_of_getElem? hp))
    obtain ⟨hl1, hl2, hl3, hl4, hl5⟩ := crossN_l (v := v) hF.len hi5
    have hmore := crossN_more (v := v) hp
    have hlv : lv.length ≤ 64 := by rw [hf1.length, List.length_map]; omega
    have hs0 : s0v.length ≤ 64 := by rw [hf2.length, List.length_map]; omega
    have hs1 : s1v.length ≤ 64 := by rw [hf3.length, List.length_map]; omega
    have iS : @LT.lt Nat _ zS I := hI0 _ (.tail _ (.head _))
    have iLf : @LT.lt Nat _ zL I := hI0 _ (.tail _ (.tail _ (.head _)))
    have i00 : @LT.lt Nat _ z0 I := hI0 _ (.tail _ (.tail _ (.tail _ (.head _))))
    have i11 : @LT.lt Nat _ z1 I := hI0 _ (.tail _ (.tail _ (.tail _ (.tail _ (.head _)))))
    have iR : @LT.lt Nat _ zR I := hI0 _ (.head _)
    have iC : @LT.lt Nat _ (L' + 1 + 1) I := hI0 _ (.tail _ (.tail _ (.tail _ (.tail _ (.tail _ (.head _))))))
    have hoff : OwnOff news [zL, z0, z1, L' + 1 + 1] := off_of fun b hb => by
      simp only [List.mem_cons, List.not_mem_nil, or_false] at hb
      rcases hb with rfl | rfl | rfl | rfl <;> assumption
    have hneA := hne
    simp only [List.forall_mem_cons] at hneA
    clear zF zN zd1 zd2 hI0 hC
    generalize hX : crossN v (ts.reverse.take i) = X at *
    obtain ⟨l, s0, s1⟩ := X
    dsimp only at hf1 hf2 hf3 hl1 hl2 hl3
    have hne' : l ≠ [] := fun e => by rw [e] at hl1; simp at hl1; omega
    rcases (by omega : p = 0 ∨ p = 1) with h0 | h0
    · subst h0
      have hg := argmin_mem (v := v 1) hne'
      have hg5 := hl2 _ hg
      have hm5 := h5 1 (argmin (v 1) l) hg5
      k_steps
      refine Stop.mk ?_
      refine LCg.CompSrc.ledger rfl (by k_asm) (by k_asm) (by k_mem) (by exact sz_le hlv) (fun g1 => rest_ind (fun k ys => IntsAre ys ((l.take k).map (v 1))) (n := lv.toArray.size) (by exact .inr ⟨_, by k_mem, rfl, _, rfl⟩) ?_ ?_ _ 0 [] (by simp) .nil)
      · intro k ys v2 I2 oI2 C2 oC2 D2 m2 h2' tk2 E2 hk2 hv2 hy2 hC2 hx2 F2 N2 off2
        obtain ⟨g, tg, rfl, hgk⟩ := ints_nat hf1 (by simpa using hv2)
        have hgl := hl2 g (List.mem_of_getElem? hgk)
        have hx1 : ((List.range 5).map (v 1))[g]? = some (v 1 g) := by rw [List.getElem?_map, List.getElem?_range hgl]; rfl
        k_steps
        all_goals first | rfl | assumption | exact take_more hy2 hgk
      · intro ys hy
        refine finE_of fun D h2' tk2 F2 N2 oD => ?_
        have hsz : lv.toArray.size = l.length := by rw [List.size_toArray, hf1.length, List.length_map]
        have hy' : IntsAre ys (l.map (v 1)) := by rw [hsz, List.take_length] at hy; exact hy
        have dL : @Ne Nat zL D := oD (zL, _) (by k_mem)
        have d0 : @Ne Nat z0 D := oD (z0, _) (by k_mem)
        have d1 : @Ne Nat z1 D := oD (z1, _) (by k_mem)
        clear oD hy
        dsimp only
        k_steps
        rename News _ _ _ _ => eN
        rename Fr _ _ _ _ => eF
        rename IntsAre _ (List.map _ (List.erase _ _)) => eI
        simp only [List.push_toArray] at eN
        refine TS.intro (⟨_, _, _, _, _, _, _⟩ : XS) eF eN (List.forall_mem_cons.mpr ⟨by k_mem, List.forall_mem_cons.mpr ⟨by k_mem, fun p hp => nomatch hp⟩⟩)
          (List.forall_mem_cons.mpr ⟨by k_mem, List.forall_mem_cons.mpr ⟨by k_mem, List.forall_mem_cons.mpr ⟨by k_mem, List.forall_mem_cons.mpr ⟨by k_mem, List.forall_mem_cons.mpr ⟨by k_mem, List.forall_mem_cons.mpr ⟨by k_mem, List.forall_mem_cons.mpr ⟨by k_mem, List.forall_mem_cons.mpr ⟨by k_mem, List.forall_mem_cons.mpr ⟨by k_mem, List.forall_mem_cons.mpr ⟨by k_mem, fun p hp => by repeat (first | exact hp | refine List.Mem.tail _ ?_)⟩⟩⟩⟩⟩⟩⟩⟩⟩⟩)
          (by simp only [List.forall_mem_cons]; exact hneA) (by kst_all) (xf_more0 eI hf2 hf3 hmore (by assumption))
    · subst h0
      have hg := argmin_mem (v := v 0) hne'
      have hg5 := hl2 _ hg
      have hm5 := h5 0 (argmin (v 0) l) hg5
      k_steps
      refine Stop.mk ?_
      refine LCg.CompSrc.ledger rfl (by k_asm) (by k_asm) (by k_mem) (by exact sz_le hlv) (fun g1 => rest_ind (fun k ys => IntsAre ys ((l.take k).map (v 0))) (n := lv.toArray.size) (by exact .inr ⟨_, by k_mem, rfl, _, rfl⟩) ?_ ?_ _ 0 [] (by simp) .nil)
      · intro k ys v2 I2 oI2 C2 oC2 D2 m2 h2' tk2 E2 hk2 hv2 hy2 hC2 hx2 F2 N2 off2
        obtain ⟨g, tg, rfl, hgk⟩ := ints_nat hf1 (by simpa using hv2)
        have hgl := hl2 g (List.mem_of_getElem? hgk)
        have hx1 : ((List.range 5).map (v 0))[g]? = some (v 0 g) := by rw [List.getElem?_map, List.getElem?_range hgl]; rfl
        k_steps
        all_goals first | rfl | assumption | exact take_more hy2 hgk
      · intro ys hy
        refine finE_of fun D h2' tk2 F2 N2 oD => ?_
        have hsz : lv.toArray.size = l.length := by rw [List.size_toArray, hf1.length, List.length_map]
        have hy' : IntsAre ys (l.map (v 0)) := by rw [hsz, List.take_length] at hy; exact hy
        have dL : @Ne Nat zL D := oD (zL, _) (by k_mem)
        have d0 : @Ne Nat z0 D := oD (z0, _) (by k_mem)
        have d1 : @Ne Nat z1 D := oD (z1, _) (by k_mem)
        clear oD hy
        dsimp only
        k_steps
        rename News _ _ _ _ => eN
        rename Fr _ _ _ _ => eF
        rename IntsAre _ (List.map _ (List.erase _ _)) => eI
        simp only [List.push_toArray] at eN
        refine TS.intro (⟨_, _, _, _, _, _, _⟩ : XS) eF eN (List.forall_mem_cons.mpr ⟨by k_mem, List.forall_mem_cons.mpr ⟨by k_mem, fun p hp => nomatch hp⟩⟩)
          (List.forall_mem_cons.mpr ⟨by k_mem, List.forall_mem_cons.mpr ⟨by k_mem, List.forall_mem_cons.mpr ⟨by k_mem, List.forall_mem_cons.mpr ⟨by k_mem, List.forall_mem_cons.mpr ⟨by k_mem, List.forall_mem_cons.mpr ⟨by k_mem, List.forall_mem_cons.mpr ⟨by k_mem, List.forall_mem_cons.mpr ⟨by k_mem, List.forall_mem_cons.mpr ⟨by k_mem, List.forall_mem_cons.mpr ⟨by k_mem, fun p hp => by repeat (first | exact hp | refine List.Mem.tail _ ?_)⟩⟩⟩⟩⟩⟩⟩⟩⟩⟩)
          (by simp only [List.forall_mem_cons]; exact hneA) (by kst_all) (xf_more1 eI hf2 hf3 hmore (by assumption))
  · intro c u h tk hf F1 N1
    obtain ⟨lv, s0v, s1v, cl, k0, k1, oc⟩ := c
    obtain ⟨hf1, hf2, hf3, vo, hf4⟩ := hf
    dsimp only at hf1 hf2 hf3 hf4 F1 N1
    have hw5 : ws.toArray.size = 5 := by rw [List.size_toArray, hI.length, List.length_reverse, List.length_map, hF.len]
    rw [hw5, List.take_of_length_le (by rw [List.length_reverse, hF.len]; exact Nat.le_refl _)] at hf1 hf2 hf3
    have hoff : OwnOff news [zL, z0, z1] := off_of fun b hb => by
      simp only [List.mem_cons, List.not_mem_nil, or_false] at hb
      rcases hb with rfl | rfl | rfl <;> assumption
    obtain ⟨_, _, _, hq0, hq1⟩ := crossN_l5 (v := v) hF.len
    clear zF zN zd1 zd2
    dsimp only
    k_steps
    refine Stop.mk ?_
    refine LCg.CompSrc.ledger rfl (by k_asm) (by k_asm) (by k_mem) (Nat.le_of_ble_eq_true rfl) (fun g1 => LCg.CompRest.succ fun v1 I1 oI1 C1 oC1 D1 m1 h1' tk1 E1 hP1 hC1 hx1 F2 N2 off1 ne1 => ?_)
    have e1 : v1 = .ref z0 := by injection hP1 with hP1; exact hP1.symm
    subst e1
    k_steps
    refine Stop.mk ?_
    rename IntsAre _ _ => q1
    rename List.Perm _ _ => q2
    rename List.Pairwise _ _ => q3
    refine compEnd1 (by assumption) (by assumption) off1 (by assumption) (.inr ⟨_, by k_mem, rfl, _, rfl⟩) (LCg.CompRest.succ fun v2 I2 oI2 C2 oC2 D2 m2 h2' tk2 E2 hP2 hC2 hx2 F3 N3 off2 ne2 => ?_)
    have e2 : v2 = .ref z1 := by injection hP2 with hP2; exact hP2.symm
    subst e2
    clear F2 N2 off1 ne1 hx1 hC1
    k_steps
    refine Stop.mk ?_
    rename IntsAre _ _ => r1
    rename List.Perm _ _ => r2
    rename List.Pairwise _ _ => r3
    refine compEnd1 (by assumption) (by assumption) off2 (by assumption) (.inr ⟨_, by k_mem, rfl, _, rfl⟩) (LCg.CompRest.zero (finE_of fun D h3' tk3 F4 N4 oD => ?_))
    clear F3 N3 off2 ne2 hx2 hC2 oD
    dsimp only
    k_steps
    rename Fr h₀ L _ _ => eF
    rename News h₀ L _ _ => eN
    exact ret _ [_, _, _] _ _ eF (news_sub eN (List.forall_mem_cons.mpr ⟨.head _, List.forall_mem_cons.mpr ⟨.tail _ (.tail _ (.head _)), List.forall_mem_cons.mpr ⟨.tail _ (.head _), fun p hp => by repeat (first | exact hp | refine List.Mem.tail _ ?_)⟩⟩⟩)) ⟨_, _, _, _, _, _, _, _, _, _, rfl, rfl, q1, r1, q3, r3, q2, r2⟩
theorem linesC9_end : True := by
  k_with_none
  trivial
end Mine
end
section
open PySem PySem.W PyProof.Rows PySem.Calls PySem.Spec
namespace Mine
noncomputable def stepA (q : Nat) (a : Int × Int) (t : Nat) : Int × Int := let l := a.1 + (if t = q then 1 else -1); (l, if l > a.2 then l else a.2)
noncomputable def aheadN (ts : List Nat) (q : Nat) : Int := (ts.foldl (stepA q) (0, 0)).2
structure AS where
  ld : Int
  mo : Int
  t1 : Tok
  t2 : Tok
noncomputable def AF (ts : List Nat) (q i : Nat) (c : AS) : Prop := (ts.take i).foldl (stepA q) (0, 0) = (c.ld, c.mo)
theorem af_more {ts : List Nat} {q i p : Nat} {c : AS} {x : Int} {t1 t2 : Tok} (h : AF ts q i c) (hp : ts[i]? = some p) (hx : x = c.ld + (if p = q then 1 else -1)) : AF ts q (i + 1) ⟨x, if x > c.mo then x else c.mo, t1, t2⟩ := by
  unfold AF at *
  rw [List.take_add_one, hp, List.foldl_append, h, hx]; rfl
theorem eqN_nat {prog : Program} {w : World} {A : Around} {E : Value → Shared → Prop} {s : Shared} {Q : Value → Shared → Prop} {t u : Tok} {a b : Nat} (h : Q (.bool (decide (a = b))) s) : wpAny (model prog w) A (compareOp .Eq (.int (a : Int) t) (.int (b : Int) u)) Q E s := by
  refine eq_int ?_
  have e : ((a : Int) == (b : Int)) = decide (a = b) := by
    rw [Bool.eq_iff_iff, decide_eq_true_iff, beq_iff_eq]; omega
  rw [e]; exact h
local macro_rules | `(tactic| walk_at "exec For Name Name cons nil") => `(tactic| (k_here; (rename Fr _ _ _ _ => lF'); (with_unfolding_all refine' For_invTF lF' ?_ ?k2; (case k2 => intro _; rfl); k_whole)))
theorem linesC10_1 : True := by
  k_with "compareOp Eq int int" => (k_here; refine eqN_nat ?_)
  trivial
set_option maxRecDepth 100000 in
set_option maxHeartbeats 8000000 in
theorem C_ahead (w : World) (mean : ExcName → Option Value) (mg mb : Str → Option Value) (ts : List Nat) (T : Addr) (tv : List Value) (ct q : Nat) (tq : Tok) :
  Ct w mean mg mb 195 [.ref T, .int (q : Int) tq] (fun _ news => (T, PySem.W.listOf tv.toArray ct) ∈ news ∧ IntsAre tv (nints ts) ∧ ts.length = 5) (fun tl r => tl = [] ∧ ∃ t, r = .int (aheadN ts q) t) := by
  unfold Ct
  intro dp un gd cn cs a ccd cl outer A₀ base h₀ L m news s Q E B F X N T' hk pre hd hu ret
  obtain ⟨hT, iT, hl⟩ := pre
  have N4 : News h₀ L s.heap ((T, PySem.W.listOf tv.toArray ct) :: news) := fun p hp => by
    rcases List.mem_cons.mp hp with rfl | hp
    · exact N _ hT
    · exact N p hp
  clear N
  refine wpAny_call ?_
  k_dflt cell_enter
  k_steps
  rename Fr _ _ _ _ => zF
  rename News _ _ _ _ => zN
  refine fs_list (σ := AS) (fun c => [(Str.ofString "who", .int (q : Int) tq), (Str.ofString "lead", .int c.ld c.t1), (Str.ofString "most", .int c.mo c.t2)]) (fun _ => (T, PySem.W.listOf tv.toArray ct) :: news) (AF ts q) ⟨0, 0, _, _⟩ rfl zF zN (fun _ => .head _) (fun p hp => .tail _ hp) (by kst_all) rfl (fun _ _ => rfl) ?_ ?_
  · intro I hI i v0 c u s' oI hi hv0 hne hf F1 N1
    obtain ⟨p, tp, rfl, hp⟩ := ints_nat iT (by simpa using hv0)
    clear zF zN
    k_steps
    all_goals (rename News _ _ _ _ => eN; rename Fr _ _ _ _ => eF)
    all_goals exact TS.intro (⟨_, _, _, _⟩ : AS) eF eN (List.forall_mem_cons.mpr ⟨by k_mem, List.forall_mem_cons.mpr ⟨by k_mem, fun p hp => nomatch hp⟩⟩) (fun p hp => .tail _ hp) hne (by kst_all) (af_more hf hp (by first | rw [if_pos (by assumption)] | rw [if_neg (by assumption)]))
  · intro c u h tk hf F1 N1
    clear zF zN
    have hf' : aheadN ts q = c.mo := by
      unfold AF at hf
      rw [List.size_toArray, iT.length, List.length_map, List.take_length] at hf
      unfold aheadN
      rw [hf]
    dsimp only
    k_steps
    rename Fr h₀ L _ _ => eF
    rename News h₀ L _ _ => eN
    exact ret _ [] _ _ eF (news_sub (l' := news) eN (fun p hp => .tail _ hp)) lt_nil ⟨rfl, _, by rw [hf']⟩
theorem linesC10_end : True := by
  k_with_none
  trivial
end Mine
end
section
open PySem PySem.W PyProof.Rows PySem.Calls PySem.Spec
namespace Mine
structure SW where
  X : Addr
  p : Addr
  q : Addr
  pv : List Value
  qv : List Value
  cx : Nat
  cp : Nat
  cq : Nat
  g0 : List Nat
  g1 : List Nat
noncomputable def SW.Ok (y : SW) (news : Led) : Prop := (y.X, PySem.W.listOf #[.ref y.p, .ref y.q] y.cx) ∈ news ∧ (y.p, PySem.W.listOf y.pv.toArray y.cp) ∈ news ∧ (y.q, PySem.W.listOf y.qv.toArray y.cq) ∈ news ∧ IntsAre y.pv (nints y.g0) ∧ IntsAre y.qv (nints y.g1) ∧ (∀ g ∈ y.g0, g < 5) ∧ (∀ g ∈ y.g1, g < 5) ∧ y.g0.length ≤ 5 ∧ y.g1.length ≤ 5
noncomputable def Content (v : Nat → Nat → Int) (ts g0 g1 : List Nat) : Prop :=
  (∀ Ls : List Int, Ls.Perm (g0.map (v 1)) → Ls.Pairwise (fun a b => b ≤ a) → (Ls.drop (aheadN ts 0).toNat).sum ≤ (g1.map (v 1)).sum) ∧
  (∀ Ls : List Int, Ls.Perm (g1.map (v 0)) → Ls.Pairwise (fun a b => b ≤ a) → (Ls.drop (aheadN ts 1).toNat).sum ≤ (g0.map (v 0)).sum)
local macro_rules | `(tactic| walk_at "exec For Name List cons nil") => `(tactic| (k_here; (rename Fr _ _ _ _ => lF'); (with_unfolding_all refine' For_invTF lF' ?_ ?k2; (case k2 => intro _; rfl); k_whole)))
theorem linesC11_1 : True := by
  k_with "eval ListComp" => (k_here; k_dflt (refine LCg.ListComp_U (F₀ := by k_asm) (by with_unfolding_all rfl) (by decide) (by rfl) (by decide) (by rfl) ?_); k_dflt lcg_toSrc)
  k_with "subscriptTail" => (k_here; (with_reducible show wpAny _ _ (subscriptTail _ _ (Value.ref _) (Value.int _ _)) _ _ _); k_dflt (refine' refs_item (vs := [_, _]) (by w_strict (k_asm)) (by w_strict (k_mem)) (by w_strict (decide)) (by w_strict (decide)) (by w_strict (rfl)) ?_; k_whole))
  k_with "subscriptTail" => (k_here; (with_reducible show wpAny _ _ (subscriptTail _ _ (Value.ref _) (Value.int (Nat.cast _) _)) _ _ _); k_dflt (refine' ints_itemN (by w_strict (k_asm)) (by w_strict (k_mem)) (by w_strict (with_reducible assumption)) (by w_strict (omega)) (by w_strict (with_reducible assumption)) ?_; k_whole); intro _)
  trivial
theorem sz_int {vs : List Value} {ns : List Int} {c : Nat} (hi : IntsAre vs ns) (he : ns.length = c) (hc : c ≤ 64) : vs.toArray.size ≤ sizeLine := sz_le (by rw [hi.length, he]; exact hc)
theorem linesC11_2 : True := by
  k_with "call builtin:sorted" => (k_here; (show wpAny _ _ (call (Value.builtin _) [Value.ref _] [(PySem.Str.ofString "reverse", Value.bool _)]) _ _ _); k_dflt (refine' ksk_rev (by w_strict (k_asm)) (by w_strict (k_asm)) (by w_strict (exact isl (by k_asm) (by k_mem))) (by w_strict (with_reducible assumption)) (by w_strict (simp only [List.length_map]; omega)) ?_; k_whole); intro _ _ _ _ _ _ _ l1 _ e' _ o' b'; clear b'; (try simp only [if_true] at o'); (try simp only [List.length_map] at e'); (try k_lt l1); (try (revert l1 e' o'; intro _ _ _)))
  k_with "call builtin:sum" => (k_here; k_dflt (refine' sumK (by w_strict (rfl)) (by w_strict (k_asm)) (by w_strict (k_asm)) (by w_strict (exact isl (by k_asm) (by k_mem))) (by w_strict (with_reducible assumption)) ?_; k_whole); intro _ _ _ _ _)
  k_with "subscriptTail Name Slice ref ref" => (k_here; k_dflt (refine' kmk_slice_ints (by w_strict (k_asm)) (by w_strict (k_asm)) (by w_strict (exact isl (by k_asm) (by k_mem))) (by w_strict (exact IsPart.int _ _)) (by w_strict (exact IsPart.none)) (by w_strict (with_reducible assumption)) (by w_strict (exact slice_ints_fromW (by with_reducible assumption) (by assumption))) rfl ?_ (by w_strict (with_unfolding_all rfl)) (by w_strict (kmk_pure)) (by w_strict (exact sz_int (by with_reducible assumption) (by with_reducible assumption) (by omega))); k_whole); intro _ _ _ _ _ l1 _ _ _; (try k_lt l1); (try (revert l1; intro _)))
  k_with "call ref" => (k_here; (with_reducible show wpAny _ _ (call (Value.ref 195) _) _ _ _); k_dflt (refine' Ct.use (C_ahead _ _ _ _ _ _ _ _ _ _) (by w_strict (k_asm)) (by w_strict (k_asm)) (by w_strict (k_asm)) (by w_strict (k_asm)) (by w_strict (k_asm)) rfl (by w_strict (exact ⟨by k_mem, by assumption, by assumption⟩)) (by w_strict (ktr_room)) (by w_strict (ktr_units)) ?_; intro _ _ _ _ _ N9 l9 hP9; obtain ⟨ea, _, eb⟩ := hP9; subst ea; subst eb; (try dsimp only [List.cons_append, List.nil_append] at N9); clear l9); (try (revert N9; intro _)))
  k_with "CompSrc" => (refine Stop.go ?_)
  trivial
set_option maxRecDepth 100000 in
set_option maxHeartbeats 8000000 in
theorem C_content (w : World) (mean : ExcName → Option Value) (mg mb : Str → Option Value) (v : Nat → Nat → Int) (ts : List Nat) (x : TW) (y : SW) :
  Ct3 w mean mg mb 200 [.ref x.T, .ref x.W, .ref y.X] (fun _ news => x.Ok v ts news ∧ ts.length = 5 ∧ y.Ok news ∧ Content v ts y.g0 y.g1 ∧ (∀ q < 2, 0 ≤ aheadN ts q ∧ aheadN ts q ≤ 5)) (fun tl r => tl = [] ∧ r = .bool true) := by
  unfold Ct3
  intro dp un gd cn cs a ccd cl outer A₀ base h₀ L m news s Q E B F X N T hk pre hd hu ret
  obtain ⟨⟨hT, hW, ha, hb, iT, i0, i1, hv⟩, htl, ⟨yX, yp, yq, jp, jq, kp, kq, mp, mq⟩, ⟨hC0, hC1⟩, hA⟩ := pre
  have N4 : News h₀ L s.heap ((x.T, PySem.W.listOf x.tv.toArray x.ct) :: (x.W, PySem.W.listOf #[.ref x.a, .ref x.b] x.cw) :: (x.a, PySem.W.listOf x.w0.toArray x.c0) :: (x.b, PySem.W.listOf x.w1.toArray x.c1) :: (y.X, PySem.W.listOf #[.ref y.p, .ref y.q] y.cx) :: (y.p, PySem.W.listOf y.pv.toArray y.cp) :: (y.q, PySem.W.listOf y.qv.toArray y.cq) :: news) := fun p hp => by
    simp only [List.mem_cons] at hp
    rcases hp with rfl | rfl | rfl | rfl | rfl | rfl | rfl | hp
    · exact N _ hT
    · exact N _ hW
    · exact N _ ha
    · exact N _ hb
    · exact N _ yX
    · exact N _ yp
    · exact N _ yq
    · exact N p hp
  clear N hT hW ha hb yX yp yq
  refine wpAny_call ?_
  k_dflt (refine' code_defC ?k1 ?k2 ?k3 ?k4 ?k5 ?kA ?kF ?kK ?k6 ?k7 ?k8 ?k9 ?kB ?kD ?_ ?c2 ?c3 ?c4; (case kA => exact rfl); (case kF => exact rfl); (case kK => assumption); (case k1 => k_asm); (case k2 => k_asm); (case k3 => k_asm); (case k4 => k_asm); (case k5 => k_asm); (case k6 => k_is); (case k7 => k_is); (case k8 => ktr_room); (case k9 => exact BindsTo.of_eq rfl); (case kB => exact rfl); (case kD => decide +kernel); (case c2 => exact rfl); (case c3 => exact rfl); (case c4 => exact rfl); k_whole; intro g' L' h' tk' cells' FG' F' N' Y' B' X' T' l1; (try k_lt l1); k_cells Y'; (try simp only [List.cons_append, List.nil_append] at N'); (try dsimp only); (try k_lift B'); (try k_fold))
  k_steps
  rename Fr _ _ _ _ => zF
  rename News _ _ _ _ => zN
  rename_i zo1 zo2 zd1 zd2 zQ h1 lQ
  have hcw : zo2.data = .cell (some (.ref x.W)) := zd2
  have hpz : y.pv.length ≤ 64 := by rw [jp.length, List.length_map]; omega
  have hqz : y.qv.length ≤ 64 := by rw [jq.length, List.length_map]; omega
  have lc' : ∀ p ∈ news, p.1 < L' + 1 + 1 := fun p hp => Nat.lt_succ_of_lt (Nat.lt_succ_of_lt (allLt_mem l1.2.2.2.2.2.2.2 p hp))
  have hoff : OwnOff news [L' + 1 + 1] := off_of fun b hb => by cases List.mem_singleton.mp hb; exact lc'
  refine fs_list (σ := Obj) (fun _ => [(Str.ofString "turns", .ref x.T), (Str.ofString "shares", .ref y.X)]) (fun oc => (zQ, PySem.W.listOf #[.int 0 tk', .int 1 (tk' + 1)] 0) :: (L' + 1 + 1, oc) :: (L' + 1, zo2) :: (x.T, PySem.W.listOf x.tv.toArray x.ct) :: (x.W, PySem.W.listOf #[.ref x.a, .ref x.b] x.cw) :: (x.a, PySem.W.listOf x.w0.toArray x.c0) :: (x.b, PySem.W.listOf x.w1.toArray x.c1) :: (y.X, PySem.W.listOf #[.ref y.p, .ref y.q] y.cx) :: (y.p, PySem.W.listOf y.pv.toArray y.cp) :: (y.q, PySem.W.listOf y.qv.toArray y.cq) :: news) (fun _ oc => ∃ vo, oc.data = .cell vo) zo1 rfl zF zN (fun _ => .head _) (fun p hp => hp) (by kst_all) ⟨_, zd1⟩ (fun _ _ => rfl) ?_ ?_
  · intro I hI0 i v0 oc u s' oI hi hv0 hne hf F1 N1
    obtain ⟨vo, hf4⟩ := hf
    have iC : @LT.lt Nat _ (L' + 1 + 1) I := hI0 _ (.tail _ (.head _))
    have hneA := hne
    simp only [List.forall_mem_cons] at hneA
    clear zF zN zd1 zd2 hI0
    obtain ⟨p, tp, rfl, hp⟩ : ∃ (p : Nat) (tp : Tok), v0 = .int (p : Int) tp ∧ (p = 0 ∨ p = 1) := by
      match i, hi, hv0 with
      | 0, _, h => injection h with h; exact ⟨0, _, h.symm, .inl rfl⟩
      | 1, _, h => injection h with h; exact ⟨1, _, h.symm, .inr rfl⟩
    rcases hp with h0 | h0
    · subst h0
      obtain ⟨hA0, hA5⟩ := hA 0 (by decide)
      k_steps
      refine Stop.mk ?_
      refine LCg.CompSrc.ledger rfl (by k_asm) (by k_asm) (by k_mem) (by exact sz_le hpz) (fun g1 => rest_ind (fun k ys => IntsAre ys ((y.g0.take k).map (v 1))) (n := _) (by exact .inr ⟨_, by k_mem, rfl, _, rfl⟩) ?_ ?_ _ 0 [] (by simp; rfl) .nil)
      · intro k ys v2 I2 oI2 C2 oC2 D2 m2 h2' tk2 E2 hk2 hv2 hy2 hC2 hx2 F2 N2 off2
        obtain ⟨g, tg, rfl, hgk⟩ := ints_nat jp (by simpa using hv2)
        have hgl := kp g (List.mem_of_getElem? hgk)
        have hx1 : ((List.range 5).map (v 1))[g]? = some (v 1 g) := by rw [List.getElem?_map, List.getElem?_range hgl]; rfl
        k_steps
        all_goals first | rfl | assumption | exact take_more hy2 hgk
      intro ys hy
      refine finE_of fun D h2' tk2 F2 N2 oD => ?_
      have hy' : IntsAre ys (y.g0.map (v 1)) := by rw [jp.length, List.length_map, List.take_length] at hy; exact hy
      clear oD hy
      dsimp only
      k_steps
      refine Stop.mk ?_
      refine LCg.CompSrc.ledger rfl (by k_asm) (by k_asm) (by k_mem) (by exact sz_le hqz) (fun g1 => rest_ind (fun k ys => IntsAre ys ((y.g1.take k).map (v 1))) (n := _) (by exact .inr ⟨_, by k_mem, rfl, _, rfl⟩) ?_ ?_ _ 0 [] (by simp; rfl) .nil)
      · intro k ys v2 I2 oI2 C2 oC2 D2 m2 h2' tk2 E2 hk2 hv2 hy2 hC2 hx2 F2 N2 off2
        obtain ⟨g, tg, rfl, hgk⟩ := ints_nat jq (by simpa using hv2)
        have hgl := kq g (List.mem_of_getElem? hgk)
        have hx1 : ((List.range 5).map (v 1))[g]? = some (v 1 g) := by rw [List.getElem?_map, List.getElem?_range hgl]; rfl
        k_steps
        all_goals first | rfl | assumption | exact take_more hy2 hgk
      intro ys hy
      refine finE_of fun D h2' tk2 F2 N2 oD => ?_
      have hy' : IntsAre ys (y.g1.map (v 1)) := by rw [jq.length, List.length_map, List.take_length] at hy; exact hy
      clear oD hy
      dsimp only
      k_steps
      · rename List.Perm _ _ => zp
        rename List.Pairwise _ _ => zo
        exfalso
        have := hC0 _ zp zo
        omega
      · rename News _ _ _ _ => eN
        rename Fr _ _ _ _ => eF
        refine TS.intro _ eF eN (List.forall_mem_cons.mpr ⟨by k_mem, List.forall_mem_cons.mpr ⟨by k_mem, fun p hp => nomatch hp⟩⟩)
          (List.forall_mem_cons.mpr ⟨by k_mem, List.forall_mem_cons.mpr ⟨by k_mem, List.forall_mem_cons.mpr ⟨by k_mem, List.forall_mem_cons.mpr ⟨by k_mem, List.forall_mem_cons.mpr ⟨by k_mem, List.forall_mem_cons.mpr ⟨by k_mem, List.forall_mem_cons.mpr ⟨by k_mem, List.forall_mem_cons.mpr ⟨by k_mem, List.forall_mem_cons.mpr ⟨by k_mem, List.forall_mem_cons.mpr ⟨by k_mem, fun p hp => by repeat (first | exact hp | refine List.Mem.tail _ ?_)⟩⟩⟩⟩⟩⟩⟩⟩⟩⟩)
          (by simp only [List.forall_mem_cons]; exact hneA) (by kst_all) ⟨_, by assumption⟩
    · subst h0
      obtain ⟨hA0, hA5⟩ := hA 1 (by decide)
      k_steps
      refine Stop.mk ?_
      refine LCg.CompSrc.ledger rfl (by k_asm) (by k_asm) (by k_mem) (by exact sz_le hqz) (fun g1 => rest_ind (fun k ys => IntsAre ys ((y.g1.take k).map (v 0))) (n := _) (by exact .inr ⟨_, by k_mem, rfl, _, rfl⟩) ?_ ?_ _ 0 [] (by simp; rfl) .nil)
      · intro k ys v2 I2 oI2 C2 oC2 D2 m2 h2' tk2 E2 hk2 hv2 hy2 hC2 hx2 F2 N2 off2
        obtain ⟨g, tg, rfl, hgk⟩ := ints_nat jq (by simpa using hv2)
        have hgl := kq g (List.mem_of_getElem? hgk)
        have hx1 : ((List.range 5).map (v 0))[g]? = some (v 0 g) := by rw [List.getElem?_map, List.getElem?_range hgl]; rfl
        k_steps
        all_goals first | rfl | assumption | exact take_more hy2 hgk
      intro ys hy
      refine finE_of fun D h2' tk2 F2 N2 oD => ?_
      have hy' : IntsAre ys (y.g1.map (v 0)) := by rw [jq.length, List.length_map, List.take_length] at hy; exact hy
      clear oD hy
      dsimp only
      k_steps
      refine Stop.mk ?_
      refine LCg.CompSrc.ledger rfl (by k_asm) (by k_asm) (by k_mem) (by exact sz_le hpz) (fun g1 => rest_ind (fun k ys => IntsAre ys ((y.g0.take k).map (v 0))) (n := _) (by exact .inr ⟨_, by k_mem, rfl, _, rfl⟩) ?_ ?_ _ 0 [] (by simp; rfl) .nil)
      · intro k ys v2 I2 oI2 C2 oC2 D2 m2 h2' tk2 E2 hk2 hv2 hy2 hC2 hx2 F2 N2 off2
        obtain ⟨g, tg, rfl, hgk⟩ := ints_nat jp (by simpa using hv2)
        have hgl := kp g (List.mem_of_getElem? hgk)
        have hx1 : ((List.range 5).map (v 0))[g]? = some (v 0 g) := by rw [List.getElem?_map, List.getElem?_range hgl]; rfl
        k_steps
        all_goals first | rfl | assumption | exact take_more hy2 hgk
      intro ys hy
      refine finE_of fun D h2' tk2 F2 N2 oD => ?_
      have hy' : IntsAre ys (y.g0.map (v 0)) := by rw [jp.length, List.length_map, List.take_length] at hy; exact hy
      clear oD hy
      dsimp only
      k_steps
      · rename List.Perm _ _ => zp
        rename List.Pairwise _ _ => zo
        exfalso
        have := hC1 _ zp zo
        omega
      · rename News _ _ _ _ => eN
        rename Fr _ _ _ _ => eF
        refine TS.intro _ eF eN (List.forall_mem_cons.mpr ⟨by k_mem, List.forall_mem_cons.mpr ⟨by k_mem, fun p hp => nomatch hp⟩⟩)
          (List.forall_mem_cons.mpr ⟨by k_mem, List.forall_mem_cons.mpr ⟨by k_mem, List.forall_mem_cons.mpr ⟨by k_mem, List.forall_mem_cons.mpr ⟨by k_mem, List.forall_mem_cons.mpr ⟨by k_mem, List.forall_mem_cons.mpr ⟨by k_mem, List.forall_mem_cons.mpr ⟨by k_mem, List.forall_mem_cons.mpr ⟨by k_mem, List.forall_mem_cons.mpr ⟨by k_mem, List.forall_mem_cons.mpr ⟨by k_mem, fun p hp => by repeat (first | exact hp | refine List.Mem.tail _ ?_)⟩⟩⟩⟩⟩⟩⟩⟩⟩⟩)
          (by simp only [List.forall_mem_cons]; exact hneA) (by kst_all) ⟨_, by assumption⟩
  · intro oc u h tk hf F1 N1
    clear zF zN zd1 zd2
    dsimp only
    k_steps
    rename Fr h₀ L _ _ => eF
    rename News h₀ L _ _ => eN
    exact ret _ [] _ _ eF (news_sub (l' := news) eN (fun p hp => by repeat (first | exact hp | refine List.Mem.tail _ ?_))) ⟨rfl, rfl⟩
theorem linesC11_end : True := by
  k_with_none
  trivial
end Mine
end
section
open PySem PySem.W PyProof.Rows PySem.Calls PySem.Spec
namespace Mine
noncomputable def wordL : List Str := [Str.ofString "OPTIMIZED", Str.ofString "VARKEYWORDS", Str.ofString "NOFREE", Str.ofString "ASYNC_GENERATOR", Str.ofString "0x1000"]
noncomputable def wordAt (g : Nat) : Str := wordL.getD g (Str.ofString "")
noncomputable def wordsN (g : List Nat) : Str := if g = [] then Str.ofString "0x0" else Txt.join (Str.ofString ", ") (g.map wordAt)
theorem word_val (t0 t1 t2 t3 t4 : Tok) {x : Nat} (h : x < 5) : ∃ t, ([.str (Str.ofString "OPTIMIZED") t0, .str (Str.ofString "VARKEYWORDS") t1, .str (Str.ofString "NOFREE") t2, .str (Str.ofString "ASYNC_GENERATOR") t3, .str (Str.ofString "0x1000") t4] : List Value)[x]? = some (.str (wordAt x) t) := by
  match x, h with
  | 0, _ => exact ⟨_, rfl⟩
  | 1, _ => exact ⟨_, rfl⟩
  | 2, _ => exact ⟨_, rfl⟩
  | 3, _ => exact ⟨_, rfl⟩
  | 4, _ => exact ⟨_, rfl⟩
theorem word_len {x : Nat} (h : x < 5) : (wordAt x).length ≤ 20 := by
  match x, h with
  | 0, _ => decide
  | 1, _ => decide
  | 2, _ => decide
  | 3, _ => decide
  | 4, _ => decide
theorem word_sum0 : ∀ {g : List Nat}, (∀ x ∈ g, x < 5) → ((g.map wordAt).map (·.length)).sum ≤ 20 * g.length
  | [], _ => Nat.le_refl _
  | x :: g, h => by
    have h1 := word_len (h x (.head _))
    have h2 := word_sum0 (g := g) fun y hy => h y (.tail _ hy)
    simp only [List.map_cons, List.sum_cons, List.length_cons]
    omega
theorem word_sum {g : List Nat} (h : ∀ x ∈ g, x < 5) (hl : g.length ≤ 5) : ((g.map wordAt).map (·.length)).sum + (g.map wordAt).length ≤ 1048576 := by
  have := word_sum0 h
  rw [List.length_map]
  omega
theorem strs_app : ∀ {vs ws : List Value} {xs ys : List Str}, StrsAre vs xs → StrsAre ws ys → StrsAre (vs ++ ws) (xs ++ ys)
  | _, _, _, _, .nil, h => h
  | _, _, _, _, .cons y t r, h => .cons y t (strs_app r h)
theorem take_moreS {ys : List Value} {l : List Nat} {k g : Nat} {f : Nat → Str} {t : Tok} (h : StrsAre ys ((l.take k).map f)) (hg : l[k]? = some g) : StrsAre (ys ++ [.str (f g) t]) ((l.take (k + 1)).map f) := by
  rw [List.take_add_one, hg, List.map_append]
  exact strs_app h (.cons _ _ .nil)
theorem nints_nil {g : List Nat} (h : nints g = []) : g = [] := List.map_eq_nil_iff.mp h
theorem nints_ne {g : List Nat} (h : ¬ nints g = []) : g ≠ [] := fun e => h (by rw [e]; rfl)
section
variable {prog : Program} {w : World} {A : Around} {E : Value → Shared → Prop} {s : Shared} {Q : Value → Shared → Prop} {u : Tok} {h₀ : Heap} {L : Addr} {m : Str → Option Value} {news : Led}
theorem val_itemN {value slice : Expr} {l : Addr} {vs : List Value} {c : Nat} {k : Nat} {x : Value} (N : News h₀ L s.heap news) (hm : (l, PySem.W.listOf vs.toArray c) ∈ news)
    (h1 : k < 64) (hx : vs[k]? = some x) (h : Q x s)
    (hs : subscripted slice false (.ref l) (.int (k : Int) u) = operate [.ref l, .int (k : Int) u] (getItem (.ref l) (.int (k : Int) u)) := by with_unfolding_all rfl) :
    wpAny (model prog w) A (subscriptTail value slice (.ref l) (.int (k : Int) u)) Q E s := refs_item N hm (by omega) (by omega) (by rw [Int.toNat_natCast]; exact hx) h hs
end
theorem linesC12_1 : True := by
  k_with "eval ListComp" => (k_here; k_dflt (refine LCg.ListComp_U (F₀ := by k_asm) (by with_unfolding_all rfl) (by decide) (by rfl) (by decide) (by rfl) ?_); k_dflt lcg_toSrc)
  k_with "compareOp Eq ref ref" => (k_here; k_dflt (refine' eq_intsK (by w_strict (exact isl (by k_asm) (by k_mem))) (by w_strict (with_reducible assumption)) (by w_strict (exact isl (vs := List.toArray []) (by k_asm) (by k_mem))) (by w_strict (exact IntsAre.nil)) (by w_strict (ktr_units)) ?_; k_whole))
  k_with "subscriptTail" => (k_here; (with_reducible show wpAny _ _ (subscriptTail _ _ (Value.ref _) (Value.int (Nat.cast _) _)) _ _ _); k_dflt (refine' val_itemN (by w_strict (k_asm)) (by w_strict (k_mem)) (by w_strict (omega)) (by w_strict (with_reducible assumption)) ?_; k_whole))
  k_with "call builtin:str.join" => (k_here; k_dflt (refine' join_listW (by w_strict (exact isl (by k_asm) (by k_mem))) (by w_strict (with_reducible assumption)) (by w_strict (decide)) (by w_strict (assumption)) ?_; k_whole); intro _ _)
  k_with "CompSrc" => (refine Stop.go ?_)
  trivial
set_option maxRecDepth 100000 in
set_option maxHeartbeats 8000000 in
theorem C_worded (w : World) (mean : ExcName → Option Value) (mg mb : Str → Option Value) (S : Addr) (sv : List Value) (c : Nat) (g : List Nat) :
  Ct3 w mean mg mb 188 [.ref S] (fun _ news => (S, PySem.W.listOf sv.toArray c) ∈ news ∧ IntsAre sv (nints g) ∧ (∀ x ∈ g, x < 5) ∧ g.length ≤ 5) (fun tl r => tl = [] ∧ ∃ t, r = .str (wordsN g) t) := by
  unfold Ct3
  intro dp un gd cn cs a ccd cl outer A₀ base h₀ L m news s Q E B F X N T' hk pre hd hu ret
  obtain ⟨hS, iS, hg5, hgl⟩ := pre
  have N4 : News h₀ L s.heap ((S, PySem.W.listOf sv.toArray c) :: news) := fun p hp => by
    rcases List.mem_cons.mp hp with rfl | hp
    · exact N _ hS
    · exact N p hp
  clear N
  refine wpAny_call ?_
  k_dflt (refine' code_defC ?k1 ?k2 ?k3 ?k4 ?k5 ?kA ?kF ?kK ?k6 ?k7 ?k8 ?k9 ?kB ?kD ?_ ?c2 ?c3 ?c4; (case kA => exact rfl); (case kF => exact rfl); (case kK => assumption); (case k1 => k_asm); (case k2 => k_asm); (case k3 => k_asm); (case k4 => k_asm); (case k5 => k_asm); (case k6 => k_is); (case k7 => k_is); (case k8 => ktr_room); (case k9 => exact BindsTo.of_eq rfl); (case kB => exact rfl); (case kD => decide +kernel); (case c2 => exact rfl); (case c3 => exact rfl); (case c4 => exact rfl); k_whole; intro g' L' h' tk' cells' FG' F' N' Y' B' X' T' l1; (try k_lt l1); k_cells Y'; (try simp only [List.cons_append, List.nil_append] at N'); (try dsimp only); (try k_lift B'); (try k_fold))
  have l1n := allLt_mem l1.2
  have hoff : OwnOff news [L' + 1] := off_of fun b hb => by cases List.mem_singleton.mp hb; exact fun p hp => Nat.lt_succ_of_lt (l1n p hp)
  k_steps
  · have hg : g = [] := nints_nil (of_decide_eq_true (by assumption))
    rename Fr h₀ L _ _ => eF
    rename News h₀ L _ _ => eN
    exact ret _ [] _ _ eF (news_sub (l' := news) eN (fun p hp => by repeat (first | exact hp | refine List.Mem.tail _ ?_))) ⟨rfl, _, by unfold wordsN; rw [if_pos hg]⟩
  · refine Stop.mk ?_
    have hg : g ≠ [] := nints_ne (of_decide_eq_false (by assumption))
    have hsz : sv.length ≤ 64 := by rw [iS.length, List.length_map]; omega
    refine LCg.CompSrc.ledger rfl (by k_asm) (by k_asm) (by k_mem) (by exact sz_le hsz) (fun g1 => rest_ind (fun k ys => StrsAre ys ((g.take k).map wordAt)) (n := _) (by exact .inr ⟨_, by k_mem, rfl, _, rfl⟩) ?_ ?_ _ 0 [] (by simp; rfl) .nil)
    · intro k ys v2 I2 oI2 C2 oC2 D2 m2 h2' tk2 E2 hk2 hv2 hy2 hC2 hx2 F2 N2 off2
      obtain ⟨x, tg, rfl, hgk⟩ := ints_nat iS (by simpa using hv2)
      have hxl := hg5 x (List.mem_of_getElem? hgk)
      obtain ⟨tw, hxw⟩ := word_val tk' (tk' + 1) (tk' + 1 + 1) (tk' + 1 + 1 + 1) (tk' + 1 + 1 + 1 + 1) hxl
      k_steps
      all_goals first | rfl | assumption | exact take_moreS hy2 hgk
    · intro ys hy
      refine finE_of fun D h2' tk2 F2 N2 oD => ?_
      have hy' : StrsAre ys (g.map wordAt) := by rw [iS.length, List.length_map, List.take_length] at hy; exact hy
      have hw := word_sum hg5 hgl
      clear oD hy
      dsimp only
      k_steps
      rename Fr h₀ L _ _ => eF
      rename News h₀ L _ _ => eN
      exact ret _ [] _ _ eF (news_sub (l' := news) eN (fun p hp => by repeat (first | exact hp | refine List.Mem.tail _ ?_))) ⟨rfl, _, by unfold wordsN; rw [if_neg hg]⟩
theorem linesC12_end : True := by
  k_with_none
  trivial
end Mine
end
section
open PySem PySem.W PyProof.Rows PySem.Calls PySem.Spec
namespace Mine
noncomputable def encL : List Nat → List Nat
  | [] => []
  | x :: l => if x = 34 then 34 :: 34 :: encL l else x :: encL l
noncomputable def respL (L : List Nat) : List Nat := [50, 53, 55, 32, 34] ++ (encL L ++ [34, 32, 105, 115, 32, 116, 111, 32, 98, 101, 32, 115, 104, 97, 114, 101, 100])
noncomputable abbrev sufL : List Nat := [34, 32, 105, 115, 32, 116, 111, 32, 98, 101, 32, 115, 104, 97, 114, 101, 100]
theorem sl3i (n : Nat) : PySem.Builtin.Str.strSliceIndices none (some 3) 1 (n + 5) = [0, 1, 2] := by
  unfold PySem.Builtin.Str.strSliceIndices
  have e : max (0 : Int) (min 3 ((n + 5 : Nat) : Int)) = 3 := by omega
  simp only [show (1 : Int) > 0 by decide, if_true, show ¬ ((3 : Int) < 0) by decide, if_false, e]
  decide
theorem sl35i (n : Nat) : PySem.Builtin.Str.strSliceIndices (some 3) (some 5) 1 (n + 5) = [3, 4] := by
  unfold PySem.Builtin.Str.strSliceIndices
  have e : max (0 : Int) (min 3 ((n + 5 : Nat) : Int)) = 3 := by omega
  have e' : max (0 : Int) (min 5 ((n + 5 : Nat) : Int)) = 5 := by omega
  simp only [show (1 : Int) > 0 by decide, if_true, show ¬ ((3 : Int) < 0) by decide, show ¬ ((5 : Int) < 0) by decide, if_false, e, e']
  decide
theorem sl3 (r : List Nat) : Txt.slice ⟨(50 :: 53 :: 55 :: 32 :: 34 :: r).toArray⟩ none (some 3) = Str.ofString "257" := by
  unfold Txt.slice
  have e : PySem.Builtin.Str.strSliceIndices none (some 3) 1 (⟨(50 :: 53 :: 55 :: 32 :: 34 :: r).toArray⟩ : Str).length = [0, 1, 2] := sl3i r.length
  rw [e, if_neg]
  · rfl
  · simp
    show ¬ 3 = r.length + 5
    omega
theorem sl35 (r : List Nat) : Txt.slice ⟨(50 :: 53 :: 55 :: 32 :: 34 :: r).toArray⟩ (some 3) (some 5) = Str.ofString " \"" := by
  unfold Txt.slice
  have e : PySem.Builtin.Str.strSliceIndices (some 3) (some 5) 1 (⟨(50 :: 53 :: 55 :: 32 :: 34 :: r).toArray⟩ : Str).length = [3, 4] := sl35i r.length
  rw [e, if_neg]
  · rfl
  · simp
    show ¬ 2 = r.length + 5
    omega
theorem encL_app : ∀ (a b : List Nat), encL (a ++ b) = encL a ++ encL b
  | [], b => rfl
  | x :: a, b => by
    show (if x = 34 then 34 :: 34 :: encL (a ++ b) else x :: encL (a ++ b)) = (if x = 34 then 34 :: 34 :: encL a else x :: encL a) ++ encL b
    rw [encL_app a b]
    split <;> rfl
theorem encL_len : ∀ (a : List Nat), (encL a).length ≤ 2 * a.length
  | [] => Nat.le_refl _
  | x :: a => by
    have := encL_len a
    show (if x = 34 then 34 :: 34 :: encL a else x :: encL a).length ≤ _
    split <;> simp only [List.length_cons] <;> omega
theorem resp_at (l : List Nat) (k j : Nat) : (respL l)[5 + (encL (l.take k)).length + j]? = (encL (l.drop k) ++ sufL)[j]? := by
  have e : respL l = ([50, 53, 55, 32, 34] ++ encL (l.take k)) ++ (encL (l.drop k) ++ sufL) := by
    unfold respL
    rw [show encL l = encL (l.take k) ++ encL (l.drop k) by rw [← encL_app, List.take_append_drop]]
    simp only [List.append_assoc]
  rw [e, List.getElem?_append_right (by simp only [List.length_append, List.length_cons, List.length_nil]; omega)]
  congr 1
  simp only [List.length_append, List.length_cons, List.length_nil]; omega
section
variable {prog : Program} {w : World} {A : Around} {E : Value → Shared → Prop} {s : Shared} {Q : Value → Shared → Prop} {t u : Tok} {h₀ : Heap} {L : Addr} {m : Str → Option Value} {news : Led}
theorem str_itemN {value slice : Expr} {R : List Nat} {i x : Nat} (hR : R.length ≤ 100) (hx : R[i]? = some x) (h : Q (.str (one x) s.toks) { s with toks := s.toks + 1 })
    (hs : subscripted slice false (.str ⟨R.toArray⟩ t) (.int (i : Int) u) = operate [.str ⟨R.toArray⟩ t, .int (i : Int) u] (getItem (.str ⟨R.toArray⟩ t) (.int (i : Int) u)) := by with_unfolding_all rfl)
    (ht : ∀ r, letTemporaryGo value (.str ⟨R.toArray⟩ t) r = pure () := by intro _; with_unfolding_all rfl) :
    wpAny (model prog w) A (subscriptTail value slice (.str ⟨R.toArray⟩ t) (.int (i : Int) u)) Q E s := by
  have hi : i < R.length := by
    rcases Nat.lt_or_ge i R.length with h | h
    · exact h
    · rw [List.getElem?_eq_none h] at hx; cases hx
  have hl : (⟨R.toArray⟩ : Str).length = R.length := by show R.toArray.size = _; simp
  have e : Txt.item ⟨R.toArray⟩ (i : Int) = one x := item_meets (by omega) (by rw [Int.toNat_natCast]; simpa using hx)
  refine item_str (fitsSsize_of (N := 9223372036854775808) (by omega) (by omega) (Int.le_refl _)) (by omega) (by rw [hl]; omega) (fun _ => ?_) hs ht
  rw [e]; exact h
theorem add1_nat {a : Nat} (h : Q (.int ((a + 1 : Nat) : Int) s.toks) { s with toks := s.toks + 1 }) : wpAny (model prog w) A (binaryOp .Add (.int (a : Int) t) (.int 1 u)) Q E s := by
  refine add_int ?_
  have e : (a : Int) + 1 = ((a + 1 : Nat) : Int) := by omega
  rw [e]; exact h
theorem one_eq (x : Nat) : (one x == Str.ofString "\"") = decide (x = 34) := by
  rw [Bool.eq_iff_iff, decide_eq_true_iff, beq_iff_eq]
  constructor
  · intro h
    have : (one x).cps = (Str.ofString "\"").cps := by rw [h]
    have h2 : (#[x] : Array Nat) = #[34] := this
    simpa using h2
  · rintro rfl; rfl
theorem eq_q {x : Nat} (h : Q (.bool (decide (x = 34))) s) : wpAny (model prog w) A (compareOp .Eq (.str (one x) t) (.str (Str.ofString "\"") u)) Q E s := by
  refine eq_str ?_
  rw [one_eq]; exact h
theorem ne_q {x : Nat} {r : Bool} (hr : (!decide (x = 34)) = r) (h : Q (.bool r) s) : wpAny (model prog w) A (compareOp .NotEq (.str (one x) t) (.str (Str.ofString "\"") u)) Q E s := by
  refine ne_str ?_
  have e : (one x != Str.ofString "\"") = !decide (x = 34) := by rw [← one_eq]; rfl
  rw [e, hr]; exact h
end
section
variable {σ : Type} {prog : Program} {w : World} {A : Around} {E : Value → Shared → Prop} {s : Shared} {env : Env} {h₀ : Heap} {L : Addr} {Q : Flow → Shared → Prop} {m₀ : Str → Option Value} {news : Led}
noncomputable def WPost (ps : σ → List (Str × Value)) (Led : σ → List (Addr × Obj)) (Facts : σ → Prop) (h₀ : Heap) (L : Addr) (s : Shared) (μ : σ → Nat) (c : σ) (Q : Flow → Shared → Prop) (f : Flow) (s₂ : Shared) : Prop :=
  match f with
  | .next | .cont => ∃ h' tk m' news' c', s₂ = { s with heap := h', toks := tk } ∧ Fr h₀ L h' m' ∧ News h₀ L h' news' ∧ (∀ p ∈ Led c', p ∈ news') ∧ (∀ p ∈ ps c', m' p.1 = some p.2) ∧ Facts c' ∧ μ c' < μ c
  | .brk => Q .next s₂
  | .ret v => Q (.ret v) s₂
theorem WPost.intro {ps : σ → List (Str × Value)} {Led : σ → List (Addr × Obj)} {Facts : σ → Prop} {h₀ : Heap} {L : Addr} {s : Shared} {μ : σ → Nat} {c : σ} {Q : Flow → Shared → Prop} {h' : Heap} {tk : Nat} {m' : Str → Option Value} {news' : List (Addr × Obj)} (c' : σ)
    (F : Fr h₀ L h' m') (N : News h₀ L h' news') (hn : ∀ p ∈ Led c', p ∈ news') (hp : ∀ p ∈ ps c', m' p.1 = some p.2) (hf : Facts c') (hm : μ c' < μ c) : WPost ps Led Facts h₀ L s μ c Q .next { s with heap := h', toks := tk } :=
  ⟨h', tk, m', news', c', rfl, F, N, hn, hp, hf, hm⟩
theorem WPost.brk' {ps : σ → List (Str × Value)} {Led : σ → List (Addr × Obj)} {Facts : σ → Prop} {h₀ : Heap} {L : Addr} {s s₂ : Shared} {μ : σ → Nat} {c : σ} {Q : Flow → Shared → Prop} (h : Q .next s₂) : WPost ps Led Facts h₀ L s μ c Q .brk s₂ := h
theorem fs_while {test : Expr} {body : List Stmt} {pos : Pos} (ps : σ → List (Str × Value)) (Led : σ → List (Addr × Obj)) (Facts : σ → Prop) (μ : σ → Nat) (c₀ : σ)
    (F : Fr h₀ L s.heap m₀) (N : News h₀ L s.heap news) (hn : ∀ p ∈ Led c₀, p ∈ news) (hps : ∀ p ∈ ps c₀, m₀ p.1 = some p.2) (hf : Facts c₀)
    (turn : ∀ (c : σ) (u : Str → Option Value) h tk, Facts c → Fr h₀ L h (kstB u (ps c)) → News h₀ L h (Led c) →
      wpAny (model prog w) A (isTrue test env (eval test env)) (fun b s₂ => if b = true then wpAny (model prog w) A (execs body env) (WPost ps Led Facts h₀ L s μ c Q) E s₂ else Q .next s₂) E { s with heap := h, toks := tk })
    (hE : PassesOwn (model prog w) A env E := by passes_own) :
    wpAny (model prog w) A (exec (.While test body [] pos) env) Q E s := by
  refine While_inv2 (fun n m nx => ∃ c : σ, nx = Led c ∧ μ c = n ∧ Facts c ∧ ∀ p ∈ ps c, m p.1 = some p.2) F (news := Led c₀) (fun p hp => N p (hn p hp)) ⟨c₀, rfl, rfl, hf, hps⟩ ?_ hE
  rintro n m₁ nx h tk F₁ N₁ ⟨c, rfl, hsz, hf', h1⟩
  rw [← hsz]
  refine wpAny_mono (turn c m₁ h tk hf' (fr_pick _ F₁ h1) N₁) (fun b s₂ p => ?_) fun _ _ x => x
  cases b with
  | false => simpa using p
  | true =>
    simp only [if_true] at p ⊢
    refine wpAny_mono p (fun f s₃ q => ?_) fun _ _ x => x
    cases f with
    | ret v => exact q
    | brk => exact q
    | next =>
      obtain ⟨h', tk', m', news', c', rfl, F', N', hn, hp, hf9, hm9⟩ := q
      exact ⟨h', tk', m', Led c', μ c', rfl, F', fun p hp => N' p (hn p hp), hm9, c', rfl, rfl, hf9, hp⟩
    | cont =>
      obtain ⟨h', tk', m', news', c', rfl, F', N', hn, hp, hf9, hm9⟩ := q
      exact ⟨h', tk', m', Led c', μ c', rfl, F', fun p hp => N' p (hn p hp), hm9, c', rfl, rfl, hf9, hp⟩
end
section
variable {prog : Program} {w : World} {A : Around} {E : Value → Shared → Prop} {s : Shared} {Q : Value → Shared → Prop} {t u : Tok} {h₀ : Heap} {L : Addr} {m : Str → Option Value} {news : Led}
theorem resp_len {l : List Nat} (h : l.length ≤ 20) : (respL l).length ≤ 100 := by
  have := encL_len l
  unfold respL
  simp only [List.length_append, List.length_cons, List.length_nil]; omega
theorem resp_sl3 {value slice : Expr} {l : List Nat} {uj : Tok} (hl : l.length ≤ 20) (F : Fr h₀ L s.heap m) (N : News h₀ L s.heap news)
    (h : ∀ h' t' k, Fr h₀ L h' m → News h₀ L h' news → Q (.str (Str.ofString "257") t') { s with heap := h', toks := k })
    (hs : subscripted slice false (.str ⟨(respL l).toArray⟩ t) (.ref s.heap.objs.size) = operate [.ref s.heap.objs.size, .str ⟨(respL l).toArray⟩ t] (getItem (.str ⟨(respL l).toArray⟩ t) (.ref s.heap.objs.size)) := by with_unfolding_all rfl)
    (ht : ∀ r, letTemporaryGo value (.str ⟨(respL l).toArray⟩ t) r = pure () := by intro _; with_unfolding_all rfl) :
    wpAny (model prog w) A (subscriptTail value slice (.str ⟨(respL l).toArray⟩ t) (.ref s.heap.objs.size)) Q E { s with heap := s.heap.push { cls := .type "slice", data := .fields #[.none, .int 3 uj, .none] } } := by
  have hz := resp_len hl
  refine slice_strN_ns F N (fun h' t' k F' N' => ?_) hs ht (by show (respL l).toArray.size ≤ _; rw [List.size_toArray, sizeLine_eq]; omega)
  have e : Txt.slice ⟨(respL l).toArray⟩ none (some 3) = Str.ofString "257" := sl3 _
  rw [e]; exact h h' t' k F' N'
theorem resp_sl35 {value slice : Expr} {l : List Nat} {ui uj : Tok} (hl : l.length ≤ 20) (F : Fr h₀ L s.heap m) (N : News h₀ L s.heap news)
    (h : ∀ h' t' k, Fr h₀ L h' m → News h₀ L h' news → Q (.str (Str.ofString " \"") t') { s with heap := h', toks := k })
    (hs : subscripted slice false (.str ⟨(respL l).toArray⟩ t) (.ref s.heap.objs.size) = operate [.ref s.heap.objs.size, .str ⟨(respL l).toArray⟩ t] (getItem (.str ⟨(respL l).toArray⟩ t) (.ref s.heap.objs.size)) := by with_unfolding_all rfl)
    (ht : ∀ r, letTemporaryGo value (.str ⟨(respL l).toArray⟩ t) r = pure () := by intro _; with_unfolding_all rfl) :
    wpAny (model prog w) A (subscriptTail value slice (.str ⟨(respL l).toArray⟩ t) (.ref s.heap.objs.size)) Q E { s with heap := s.heap.push { cls := .type "slice", data := .fields #[.int 3 ui, .int 5 uj, .none] } } := by
  have hz := resp_len hl
  refine slice_strN_ss F N (fun h' t' k F' N' => ?_) hs ht (by show (respL l).toArray.size ≤ _; rw [List.size_toArray, sizeLine_eq]; omega)
  have e : Txt.slice ⟨(respL l).toArray⟩ (some 3) (some 5) = Str.ofString " \"" := sl35 _
  rw [e]; exact h h' t' k F' N'
end
theorem linesC13_1 : True := by
  k_with "subscriptTail Name Slice str ref" => (k_here; first | (k_dflt (refine' resp_sl3 (by w_strict (assumption)) (by w_strict (k_asm)) (by w_strict (k_asm)) ?_; k_whole); intro h' t' k' F' N') | (k_dflt (refine' resp_sl35 (by w_strict (assumption)) (by w_strict (k_asm)) (by w_strict (k_asm)) ?_; k_whole); intro _ _ _ _ _))
  trivial
section
variable {prog : Program} {w : World} {A : Around} {E : Value → Shared → Prop} {s : Shared} {Q : Value → Shared → Prop} {t u : Tok}
theorem resp_lenK {l : List Nat} (hl : l.length ≤ 20) (h : Q (.int ((respL l).length : Int) (s.toks + 1)) { s with toks := s.toks + 1 + 1 }) : wpAny (model prog w) A (call (.builtin "len") [.str ⟨(respL l).toArray⟩ t]) Q E s := by
  have hz := resp_len hl
  have e : (⟨(respL l).toArray⟩ : Str).length = (respL l).length := by show (respL l).toArray.size = _; rw [List.size_toArray]
  refine len_str (by rw [e]; omega) ?_
  rw [e]; exact h
theorem add_one {d : List Nat} {x : Nat} (hd : d.length ≤ 100) (h : ∀ t' tk, Q (.str ⟨(d ++ [x]).toArray⟩ t') { s with toks := tk }) : wpAny (model prog w) A (binaryOp .Add (.str ⟨d.toArray⟩ t) (.str (one x) u)) Q E s := by
  refine add_str (fun t' tk => ?_) (by show d.toArray.size + 1 ≤ _; rw [List.size_toArray, sizeLine_eq]; omega)
  have e : (⟨d.toArray⟩ ++ one x : Str) = ⟨(d ++ [x]).toArray⟩ := by
    refine Str.ext' ?_
    rw [Str.cps_append]
    simp [one]
  rw [e]; exact h t' tk
theorem ltN_nat {a b : Nat} {r : Bool} (hr : decide (a < b) = r) (h : Q (.bool r) s) : wpAny (model prog w) A (compareOp .Lt (.int (a : Int) t) (.int (b : Int) u)) Q E s := by
  refine lt_int ?_
  have e : decide ((a : Int) < (b : Int)) = r := by
    rw [← hr, Bool.eq_iff_iff, decide_eq_true_iff, decide_eq_true_iff]; omega
  rw [e]; exact h
theorem geN_nat {a b : Nat} {r : Bool} (hr : decide (b ≤ a) = r) (h : Q (.bool r) s) : wpAny (model prog w) A (compareOp .GtE (.int (a : Int) t) (.int (b : Int) u)) Q E s := by
  refine ge_int ?_
  have e : decide ((a : Int) ≥ (b : Int)) = r := by
    rw [← hr, Bool.eq_iff_iff, decide_eq_true_iff, decide_eq_true_iff]; omega
  rw [e]; exact h
end
structure QS where
  k : Nat
  i : Nat
  d : List Nat
  ti : Tok
  td : Tok
noncomputable def QF (l : List Nat) (c : QS) : Prop := c.k ≤ l.length ∧ c.i = 5 + (encL (l.take c.k)).length ∧ c.d = l.take c.k
theorem linesC13_2 : True := by
  k_with "exec While Compare cons nil" => (refine Stop.go ?_)
  k_with "call builtin:len" => (k_here; k_dflt (refine resp_lenK (by assumption) ?_))
  k_with "subscriptTail Name Name str int" => (k_here; k_dflt (refine' str_itemN (by w_strict (assumption)) (by w_strict (with_reducible assumption)) ?_; k_whole))
  k_with "binaryOp Add int int" => (k_here; refine add1_nat ?_)
  k_with "binaryOp Add str str" => (k_here; k_dflt (refine' add_one (by w_strict (assumption)) ?_; k_whole); intro _ _)
  k_with "compareOp Eq str str" => (k_here; refine eq_q ?_)
  k_with "compareOp NotEq str str" => (k_here; refine ne_q rfl ?_)
  k_with "compareOp Lt int int" => (k_here; refine ltN_nat (by assumption) ?_)
  k_with "compareOp GtE int int" => (k_here; refine geN_nat (by assumption) ?_)
  trivial
set_option maxRecDepth 100000 in
set_option maxHeartbeats 8000000 in
theorem C_parse (w : World) (mean : ExcName → Option Value) (mg mb : Str → Option Value) (l : List Nat) (t : Tok) :
  Ct w mean mg mb 61 [.str ⟨(respL l).toArray⟩ t] (fun _ _ => l.length ≤ 20) (fun tl r => tl = [] ∧ ∃ t, r = .str ⟨l.toArray⟩ t) := by
  unfold Ct
  intro dp un gd cn cs a ccd cl outer A₀ base h₀ L m news s Q E B F X N T' hk hl hd hu ret
  refine wpAny_call ?_
  k_dflt cell_enter
  k_steps
  refine Stop.mk ?_
  rename Fr _ _ _ _ => zF
  rename News _ _ _ _ => zN
  have hz := resp_len hl
  refine fs_while (σ := QS) (fun c => [(Str.ofString "resp", .str ⟨(respL l).toArray⟩ t), (Str.ofString "dirname", .str ⟨c.d.toArray⟩ c.td), (Str.ofString "i", .int (c.i : Int) c.ti), (Str.ofString "n", .int ((respL l).length : Int) _)]) (fun _ => news) (QF l) (fun c => l.length + 1 - c.k) ⟨0, 5, [], _, _⟩ zF zN (fun p hp => hp) (by kst_all) ⟨Nat.zero_le _, rfl, rfl⟩ ?_
  intro c u h tk hf F1 N1
  obtain ⟨k, i, d, ti, td⟩ := c
  obtain ⟨hk1, hk2, hk3⟩ := hf
  dsimp only at hk1 hk2 hk3 F1 N1
  have hd100 : d.length ≤ 100 := by rw [hk3, List.length_take]; omega
  have r0 := resp_at l k 0
  have r1 := resp_at l k 1
  rw [Nat.add_zero, ← hk2] at r0
  rw [← hk2] at r1
  clear zF zN
  rcases Nat.lt_or_ge k l.length with hk | hk
  · obtain ⟨x, hx⟩ : ∃ x, l[k]? = some x := ⟨l[k], List.getElem?_eq_getElem hk⟩
    have ed : l.drop k = x :: l.drop (k + 1) := by
      rw [List.getElem?_eq_getElem hk] at hx
      rw [List.drop_eq_getElem_cons hk]
      cases hx; rfl
    have et : l.take (k + 1) = l.take k ++ [x] := by
      rw [List.take_add_one, hx]; rfl
    have hnl : (respL l).length = 5 + (encL (l.take k)).length + (encL (l.drop k)).length + 17 := by
      have : encL l = encL (l.take k) ++ encL (l.drop k) := by rw [← encL_app, List.take_append_drop]
      unfold respL
      rw [this]
      simp only [List.length_append, List.length_cons, List.length_nil]; omega
    rw [ed] at r0 r1 hnl
    have hm : l.length + 1 - (k + 1) < l.length + 1 - k := by omega
    rcases Nat.decEq x 34 with hq | hq
    · have ee : encL (x :: l.drop (k + 1)) = x :: encL (l.drop (k + 1)) := by
        show (if x = 34 then _ else _) = _
        rw [if_neg hq]
      have e1 : encL (l.take (k + 1)) = encL (l.take k) ++ [x] := by
        rw [et, encL_app]
        show _ ++ (if x = 34 then _ else _) = _
        rw [if_neg hq]; rfl
      rw [ee] at r0 r1 hnl
      replace r0 : (respL l)[i]? = some x := r0
      have hlt : decide (i < (respL l).length) = true := by
        rw [decide_eq_true_iff, hnl, hk2]; omega
      have hxq : decide (x = 34) = false := by rw [decide_eq_false_iff_not]; exact hq
      have hi2 : i + 1 = 5 + (encL (l.take (k + 1))).length := by
        rw [e1, List.length_append, hk2]; rfl
      have hd2 : d ++ [x] = l.take (k + 1) := by rw [hk3, et]
      clear r1 ee e1 et ed
      k_steps
      rename Fr _ _ _ _ => zF
      rename News _ _ _ _ => zN
      exact WPost.intro ⟨k + 1, i + 1, d ++ [x], _, _⟩ zF zN (fun p hp => hp) (by kst_all) ⟨hk, hi2, hd2⟩ hm
    · have ee : encL (x :: l.drop (k + 1)) = 34 :: 34 :: encL (l.drop (k + 1)) := by
        show (if x = 34 then _ else _) = _
        rw [if_pos hq]
      have e1 : encL (l.take (k + 1)) = encL (l.take k) ++ [34, 34] := by
        rw [et, encL_app]
        show _ ++ (if x = 34 then _ else _) = _
        rw [if_pos hq]; rfl
      rw [ee] at r0 r1 hnl
      simp only [List.length_cons] at hnl
      replace r0 : (respL l)[i]? = some x := by rw [hq]; exact r0
      replace r1 : (respL l)[i + 1]? = some 34 := r1
      have hlt : decide (i < (respL l).length) = true := by
        rw [decide_eq_true_iff, hnl, hk2]; omega
      have hge : decide ((respL l).length ≤ i + 1) = false := by
        rw [decide_eq_false_iff_not, hnl, hk2]; omega
      have hxq : decide (x = 34) = true := by rw [decide_eq_true_iff]; exact hq
      have hi2 : i + 1 + 1 = 5 + (encL (l.take (k + 1))).length := by
        rw [e1, List.length_append, hk2]; rfl
      have hd2 : d ++ [x] = l.take (k + 1) := by rw [hk3, et]
      clear ee e1 et ed
      k_steps
      rename Fr _ _ _ _ => zF
      rename News _ _ _ _ => zN
      exact WPost.intro ⟨k + 1, i + 1 + 1, d ++ [x], _, _⟩ zF zN (fun p hp => hp) (by kst_all) ⟨hk, hi2, hd2⟩ hm
  · have ekl : k = l.length := by omega
    have ed : l.drop k = [] := by rw [ekl, List.drop_length]
    have et : l.take k = l := by rw [ekl, List.take_length]
    have hnl : (respL l).length = 5 + (encL l).length + 17 := by
      unfold respL
      simp only [List.length_append, List.length_cons, List.length_nil]; omega
    rw [ed] at r0 r1
    rw [et] at hk2 hk3
    replace r0 : (respL l)[i]? = some 34 := r0
    replace r1 : (respL l)[i + 1]? = some 32 := r1
    have hlt : decide (i < (respL l).length) = true := by
      rw [decide_eq_true_iff, hnl, hk2]; omega
    have hge : decide ((respL l).length ≤ i + 1) = false := by
      rw [decide_eq_false_iff_not, hnl, hk2]; omega
    clear ed et
    k_steps
    refine WPost.brk' ?_
    dsimp only
    k_steps
    rename Fr h₀ L _ _ => zF
    rename News h₀ L _ _ => zN
    exact ret _ [] _ _ zF zN lt_nil ⟨rfl, _, by rw [hk3]⟩
theorem linesC13_end : True := by
  k_with_none
  trivial
end Mine
end
section
open PySem PySem.W PyProof.Rows PySem.Calls PySem.Spec
namespace Mine
noncomputable def flagN (M : Nat) : Nat := ((goodsOf M).map (8 ^ ·)).sum
noncomputable def flagL (M i : Nat) : Nat := (((goodsOf M).filter fun g => decide (i ≤ 3 * g)).map (8 ^ ·)).sum
noncomputable def goodsL (M i : Nat) : List Nat := (goodsOf M).filter fun g => decide (3 * g < i)
theorem strs_len : ∀ {vs : List Value} {xs : List Str}, StrsAre vs xs → vs.length = xs.length
  | _, _, .nil => rfl
  | _, _, .cons _ _ r => congrArg (· + 1) (strs_len r)
structure FS where
  fl : Nat
  vs : List Value
  c : Nat
  tf : Tok
noncomputable def FF (M i : Nat) (c : FS) : Prop := c.fl = flagL M i ∧ StrsAre c.vs ((goodsL M i).map wordAt) ∧ (M = 0 ∨ flagL M i ≠ 0)
theorem nohit_all : ∀ M, M < 32 → ∀ i, i < 32 → ((goodsOf M).all fun g => decide (3 * g ≠ i)) = true → Builtin.bitAnd (flagL M i : Int) ((2 ^ i : Nat) : Int) = 0 ∧ flagL M (i + 1) = flagL M i ∧ goodsL M (i + 1) = goodsL M i := by decide +kernel
theorem hit_all : ∀ M, M < 32 → ∀ g, g < 5 → (goodsOf M).contains g = true → Builtin.bitAnd (flagL M (3 * g) : Int) ((8 ^ g : Nat) : Int) = ((8 ^ g : Nat) : Int) ∧ Builtin.bitXor (flagL M (3 * g) : Int) ((8 ^ g : Nat) : Int) = (flagL M (3 * g + 1) : Int) ∧ goodsL M (3 * g + 1) = goodsL M (3 * g) ++ [g] := by decide +kernel
theorem end_all : ∀ M, M < 32 → flagL M 32 = 0 ∧ flagN M = flagL M 0 ∧ goodsL M 0 = [] ∧ (M = 0 ∨ flagL M 0 ≠ 0) ∧ (∀ i, i < 32 → flagL M i = 0 → goodsL M i = goodsOf M) := by decide +kernel
section
variable {prog : Program} {w : World} {A : Around} {E : Value → Shared → Prop} {s : Shared} {Q : Value → Shared → Prop} {t u : Tok}
theorem shl1 {i : Nat} {r : Int} (hi : i < 32) (hr : (1 : Int) * 2 ^ (i : Int).toNat = r) (h : Q (.int r s.toks) { s with toks := s.toks + 1 }) : wpAny (model prog w) A (binaryOp .LShift (.int 1 t) (.int (i : Int) u)) Q E s := by
  refine lshift_int_small (by omega) (by omega) (by decide) ?_
  rw [hr]; exact h
theorem band_to {a b r : Int} (hr : Builtin.bitAnd a b = r) (h : Q (.int r s.toks) { s with toks := s.toks + 1 }) : wpAny (model prog w) A (binaryOp .BitAnd (.int a t) (.int b u)) Q E s := by
  refine and_int ?_
  rw [hr]; exact h
theorem bxor_to {a b r : Int} (hr : Builtin.bitXor a b = r) (h : Q (.int r s.toks) { s with toks := s.toks + 1 }) : wpAny (model prog w) A (binaryOp .BitXor (.int a t) (.int b u)) Q E s := by
  refine xor_int ?_
  rw [hr]; exact h
theorem ixor_to {a b r : Int} (hr : Builtin.bitXor a b = r) (h : Q (.int r s.toks) { s with toks := s.toks + 1 }) : wpAny (model prog w) A (inplaceOp .BitXor (.int a t) (.int b u)) Q E s := by
  refine ixor_int ?_
  rw [hr]; exact h
end
theorem strs_all {vs : List Value} {x : Str} {xs : List Str} {t : Tok} (h : ∀ t, StrsAre (vs ++ [.str x t]) xs) : StrsAre (vs ++ [.str x t]) xs := h t
theorem linesC14_1 : True := by
  k_with "inplaceOp BitXor int int" => (k_here; refine ixor_to (by with_reducible assumption) ?_)
  k_with "call builtin:str.join" => (k_here; k_dflt (refine' join_listW (by w_strict (exact isl (by k_asm) (by k_mem))) (by w_strict (refine strs_all ?_; with_reducible assumption)) (by w_strict (decide)) (by w_strict (assumption)) ?_; k_whole); intro _ _)
  k_with "call builtin:list.append" => (k_here; (with_reducible show wpAny _ _ (call (Value.builtin _) [Value.ref _, _]) _ _ _); k_dflt (refine' append_K (by w_strict (k_asm)) (by w_strict (k_asm)) (by w_strict (k_upd)) ?_ (by w_strict (exact sz_le (by assumption))); k_whole); intro _ _ N'; (try simp only [List.push_toArray] at N'); (try k_sweep); (try (revert N'; intro _)))
  k_with "binaryOp LShift int int" => (k_here; refine shl1 (by assumption) (by with_reducible assumption) ?_)
  k_with "binaryOp BitAnd int int" => (k_here; refine band_to (by with_reducible assumption) ?_)
  k_with "binaryOp BitXor int int" => (k_here; refine bxor_to (by with_reducible assumption) ?_)
  trivial
local macro_rules | `(tactic| walk_at "exec For Name Call cons cons") => `(tactic| (k_here; (rename Fr _ _ _ _ => lF'); (with_unfolding_all refine' For_B lF' ?_ ?k2; (case k2 => intro _; rfl); k_whole)))
set_option maxRecDepth 100000 in
set_option maxHeartbeats 8000000 in
theorem C_pretty (w : World) (mean : ExcName → Option Value) (mg mb : Str → Option Value) (M : Nat) (t : Tok) :
  Ct w mean mg mb 22 [.int (flagN M : Int) t] (fun _ _ => M < 32) (fun tl r => ∃ t, r = .str (wordsN (goodsOf M)) t) := by
  unfold Ct
  intro dp un gd cn cs a ccd cl outer A₀ base h₀ L m news s Q E B F X N T' hk hM hd hu ret
  refine wpAny_call ?_
  k_dflt cell_enter
  k_steps
  rename Fr _ _ _ _ => zF
  rename News _ _ _ _ => zN
  rename IsRange _ _ _ _ _ _ _ _ => zR
  rename_i zS _ lS _ _ _ _ _ _ _ _ _
  have hoff : OwnOff news [zS] := off_of fun b hb => by cases List.mem_singleton.mp hb; exact fun p hp => lS p hp
  refine fb_range (σ := FS) (fun c => [(Str.ofString "flags", .int (c.fl : Int) c.tf), (Str.ofString "names", .ref zS)]) (fun c => (zS, PySem.W.listOf c.vs.toArray c.c) :: news) (FF M) ⟨flagN M, [], 0, t⟩ rfl zR rfl (n := 32) rfl zF zN ?_ ?_ ?_ (fun _ _ => rfl) ?_ ?_
  · exact fun p hp => hp
  · kst_all
  · exact ⟨(end_all M hM).2.1, by rw [(end_all M hM).2.2.1]; exact .nil, (end_all M hM).2.2.2.1⟩
  · intro I i c u h tk oI ti hi hne hlt0 hf F1 N1
    obtain ⟨fl, vs, cc, tf⟩ := c
    obtain ⟨f1, f2, f3⟩ := hf
    dsimp only at f1 f2 F1 N1 hne
    clear zF zN zR hlt0
    rw [Int.zero_add]
    have hnA : @Ne Nat zS I := hne _ (.head _)
    have hvl : vs.length ≤ 64 := by
      rw [strs_len f2, List.length_map]
      have h1 := List.length_filter_le (fun g => decide (3 * g < i)) (goodsOf M)
      have h2 : (goodsOf M).length ≤ 5 := List.length_filter_le _ (List.range 5)
      unfold goodsL; omega
    rcases hh : (goodsOf M).all (fun g => decide (3 * g ≠ i)) with _ | _
    · obtain ⟨g, hg, hgi⟩ : ∃ g ∈ goodsOf M, 3 * g = i := by
        rcases List.all_eq_false.mp hh with ⟨g, hg, h2⟩
        exact ⟨g, hg, by simpa using h2⟩
      have hg5 : g < 5 := by
        have := (List.mem_filter.mp hg).1
        simpa using this
      obtain ⟨e1, e2, e3⟩ := hit_all M hM g hg5 (List.contains_iff_mem.mpr hg)
      obtain ⟨fl2, hfl2⟩ : ∃ x, x = flagL M (3 * g + 1) := ⟨_, rfl⟩
      rw [← hfl2] at e2
      rw [← hgi] at f1 f2
      rw [← f1] at e1 e2
      have hz : fl2 = 0 → goodsL M (3 * g + 1) = goodsOf M := fun e => (end_all M hM).2.2.2.2 _ (by omega) (hfl2.symm.trans e)
      subst hgi
      clear hh
      have hgl : (goodsOf M).length ≤ 5 := List.length_filter_le _ (List.range 5)
      have hgx : ∀ x ∈ goodsOf M, x < 5 := fun x hx => by
        have := (List.mem_filter.mp hx).1
        simpa using this
      have hws := word_sum hgx hgl
      have hne0 : goodsOf M ≠ [] := fun e => by rw [e] at hg; cases hg
      have hsx : ∀ t, StrsAre (vs ++ [.str (wordAt g) t]) ((goodsL M (3 * g + 1)).map wordAt) := fun t => by
        rw [e3, List.map_append]
        exact strs_app f2 (.cons _ _ .nil)
      have hsy : fl2 = 0 → ∀ t, StrsAre (vs ++ [.str (wordAt g) t]) ((goodsOf M).map wordAt) := fun e t => by
        rw [← hz e]; exact hsx t
      clear hgx hgl e3 hg
      have hg9 : g = 0 ∨ g = 1 ∨ g = 2 ∨ g = 3 ∨ g = 4 := by omega
      rcases hg9 with rfl | rfl | rfl | rfl | rfl
      · have hsh : (1 : Int) * 2 ^ (((3 * 0 : Nat) : Int)).toNat = 1 := by decide
        replace e1 : Builtin.bitAnd (fl : Int) 1 = 1 := e1
        replace e2 : Builtin.bitXor (fl : Int) 1 = (fl2 : Int) := e2
        replace hsy : fl2 = 0 → ∀ t, StrsAre (vs ++ [.str { cps := #[79, 80, 84, 73, 77, 73, 90, 69, 68] } t]) ((goodsOf M).map wordAt) := hsy
        k_steps
        · have h0 : ¬ fl2 = 0 := by omega
          rename Fr _ _ _ _ => zF
          rename News _ _ _ _ => zN
          exact BS.intro (⟨fl2, vs ++ [.str _ _], cc + 1, _⟩ : FS) zF zN (.head _) (List.forall_mem_cons.mpr ⟨.tail _ (.head _), fun p hp => .tail _ (.tail _ hp)⟩) (by simp only [List.forall_mem_cons] at hne ⊢; exact hne) (by kst_all) ⟨hfl2, hsx _, .inr (hfl2 ▸ h0)⟩
        · have h0 : fl2 = 0 := by omega
          have hsz := hsy h0
          dsimp only
          refine BS.brk' ?_
          dsimp only
          k_steps
          refine join_listW (isl (by k_asm) (by k_mem)) (strs_all (by with_reducible assumption)) (by decide) (by assumption) ?_
          intro t' k'
          k_steps
          rename Fr h₀ L _ _ => eF
          rename News h₀ L _ _ => eN
          exact ret _ [] _ _ eF (news_sub (l' := news) eN (fun p hp => by repeat (first | exact hp | refine List.Mem.tail _ ?_))) lt_nil ⟨_, by unfold wordsN; rw [if_neg hne0]⟩
      · have hsh : (1 : Int) * 2 ^ (((3 * 1 : Nat) : Int)).toNat = 8 := by decide
        replace e1 : Builtin.bitAnd (fl : Int) 8 = 8 := e1
        replace e2 : Builtin.bitXor (fl : Int) 8 = (fl2 : Int) := e2
        replace hsy : fl2 = 0 → ∀ t, StrsAre (vs ++ [.str { cps := #[86, 65, 82, 75, 69, 89, 87, 79, 82, 68, 83] } t]) ((goodsOf M).map wordAt) := hsy
        k_steps
        · have h0 : ¬ fl2 = 0 := by omega
          rename Fr _ _ _ _ => zF
          rename News _ _ _ _ => zN
          exact BS.intro (⟨fl2, vs ++ [.str _ _], cc + 1, _⟩ : FS) zF zN (.head _) (List.forall_mem_cons.mpr ⟨.tail _ (.head _), fun p hp => .tail _ (.tail _ hp)⟩) (by simp only [List.forall_mem_cons] at hne ⊢; exact hne) (by kst_all) ⟨hfl2, hsx _, .inr (hfl2 ▸ h0)⟩
        · have h0 : fl2 = 0 := by omega
          have hsz := hsy h0
          dsimp only
          refine BS.brk' ?_
          dsimp only
          k_steps
          refine join_listW (isl (by k_asm) (by k_mem)) (strs_all (by with_reducible assumption)) (by decide) (by assumption) ?_
          intro t' k'
          k_steps
          rename Fr h₀ L _ _ => eF
          rename News h₀ L _ _ => eN
          exact ret _ [] _ _ eF (news_sub (l' := news) eN (fun p hp => by repeat (first | exact hp | refine List.Mem.tail _ ?_))) lt_nil ⟨_, by unfold wordsN; rw [if_neg hne0]⟩
      · have hsh : (1 : Int) * 2 ^ (((3 * 2 : Nat) : Int)).toNat = 64 := by decide
        replace e1 : Builtin.bitAnd (fl : Int) 64 = 64 := e1
        replace e2 : Builtin.bitXor (fl : Int) 64 = (fl2 : Int) := e2
        replace hsy : fl2 = 0 → ∀ t, StrsAre (vs ++ [.str { cps := #[78, 79, 70, 82, 69, 69] } t]) ((goodsOf M).map wordAt) := hsy
        k_steps
        · have h0 : ¬ fl2 = 0 := by omega
          rename Fr _ _ _ _ => zF
          rename News _ _ _ _ => zN
          exact BS.intro (⟨fl2, vs ++ [.str _ _], cc + 1, _⟩ : FS) zF zN (.head _) (List.forall_mem_cons.mpr ⟨.tail _ (.head _), fun p hp => .tail _ (.tail _ hp)⟩) (by simp only [List.forall_mem_cons] at hne ⊢; exact hne) (by kst_all) ⟨hfl2, hsx _, .inr (hfl2 ▸ h0)⟩
        · have h0 : fl2 = 0 := by omega
          have hsz := hsy h0
          dsimp only
          refine BS.brk' ?_
          dsimp only
          k_steps
          refine join_listW (isl (by k_asm) (by k_mem)) (strs_all (by with_reducible assumption)) (by decide) (by assumption) ?_
          intro t' k'
          k_steps
          rename Fr h₀ L _ _ => eF
          rename News h₀ L _ _ => eN
          exact ret _ [] _ _ eF (news_sub (l' := news) eN (fun p hp => by repeat (first | exact hp | refine List.Mem.tail _ ?_))) lt_nil ⟨_, by unfold wordsN; rw [if_neg hne0]⟩
      · have hsh : (1 : Int) * 2 ^ (((3 * 3 : Nat) : Int)).toNat = 512 := by decide
        replace e1 : Builtin.bitAnd (fl : Int) 512 = 512 := e1
        replace e2 : Builtin.bitXor (fl : Int) 512 = (fl2 : Int) := e2
        replace hsy : fl2 = 0 → ∀ t, StrsAre (vs ++ [.str { cps := #[65, 83, 89, 78, 67, 95, 71, 69, 78, 69, 82, 65, 84, 79, 82] } t]) ((goodsOf M).map wordAt) := hsy
        k_steps
        · have h0 : ¬ fl2 = 0 := by omega
          rename Fr _ _ _ _ => zF
          rename News _ _ _ _ => zN
          exact BS.intro (⟨fl2, vs ++ [.str _ _], cc + 1, _⟩ : FS) zF zN (.head _) (List.forall_mem_cons.mpr ⟨.tail _ (.head _), fun p hp => .tail _ (.tail _ hp)⟩) (by simp only [List.forall_mem_cons] at hne ⊢; exact hne) (by kst_all) ⟨hfl2, hsx _, .inr (hfl2 ▸ h0)⟩
        · have h0 : fl2 = 0 := by omega
          have hsz := hsy h0
          dsimp only
          refine BS.brk' ?_
          dsimp only
          k_steps
          refine join_listW (isl (by k_asm) (by k_mem)) (strs_all (by with_reducible assumption)) (by decide) (by assumption) ?_
          intro t' k'
          k_steps
          rename Fr h₀ L _ _ => eF
          rename News h₀ L _ _ => eN
          exact ret _ [] _ _ eF (news_sub (l' := news) eN (fun p hp => by repeat (first | exact hp | refine List.Mem.tail _ ?_))) lt_nil ⟨_, by unfold wordsN; rw [if_neg hne0]⟩
      · have hsh : (1 : Int) * 2 ^ (((3 * 4 : Nat) : Int)).toNat = 4096 := by decide
        replace e1 : Builtin.bitAnd (fl : Int) 4096 = 4096 := e1
        replace e2 : Builtin.bitXor (fl : Int) 4096 = (fl2 : Int) := e2
        replace hsy : fl2 = 0 → ∀ t, StrsAre (vs ++ [.str (baseText "0x" 16 4096) t]) ((goodsOf M).map wordAt) := by
          rw [show baseText "0x" 16 4096 = Str.ofString "0x1000" by decide +kernel]; exact hsy
        replace hsx : ∀ t, StrsAre (vs ++ [.str (baseText "0x" 16 4096) t]) ((goodsL M (3 * 4 + 1)).map wordAt) := by
          rw [show baseText "0x" 16 4096 = Str.ofString "0x1000" by decide +kernel]; exact hsx
        k_steps
        · have h0 : ¬ fl2 = 0 := by omega
          rename Fr _ _ _ _ => zF
          rename News _ _ _ _ => zN
          exact BS.intro (⟨fl2, vs ++ [.str _ _], cc + 1, _⟩ : FS) zF zN (.head _) (List.forall_mem_cons.mpr ⟨.tail _ (.head _), fun p hp => .tail _ (.tail _ hp)⟩) (by simp only [List.forall_mem_cons] at hne ⊢; exact hne) (by kst_all) ⟨hfl2, hsx _, .inr (hfl2 ▸ h0)⟩
        · have h0 : fl2 = 0 := by omega
          have hsz := hsy h0
          dsimp only
          refine BS.brk' ?_
          dsimp only
          k_steps
          refine join_listW (isl (by k_asm) (by k_mem)) (strs_all (by with_reducible assumption)) (by decide) (by assumption) ?_
          intro t' k'
          k_steps
          rename Fr h₀ L _ _ => eF
          rename News h₀ L _ _ => eN
          exact ret _ [] _ _ eF (news_sub (l' := news) eN (fun p hp => by repeat (first | exact hp | refine List.Mem.tail _ ?_))) lt_nil ⟨_, by unfold wordsN; rw [if_neg hne0]⟩
    · obtain ⟨e1, e2, e3⟩ := nohit_all M hM i hi hh
      obtain ⟨fg, hfg⟩ : ∃ x : Int, (1 : Int) * 2 ^ (i : Int).toNat = x := ⟨_, rfl⟩
      have hb : Builtin.bitAnd (fl : Int) fg = 0 := by
        rw [f1, ← hfg, Int.toNat_natCast, Int.one_mul, ← e1]; congr 1
      k_steps
      rename Fr _ _ _ _ => zF
      rename News _ _ _ _ => zN
      exact BS.intro (⟨fl, vs, cc, tf⟩ : FS) zF zN (.head _) (fun p hp => .tail _ hp) hne (by kst_all) ⟨f1.trans e2.symm, by rw [e3]; exact f2, by rw [e2]; exact f3⟩
  · intro c u h tk hf F1 N1
    obtain ⟨fl, vs, cc, tf⟩ := c
    obtain ⟨f1, f2, f3⟩ := hf
    dsimp only at f1 f2 F1 N1
    clear zF zN zR
    have hM0 : M = 0 := by
      rcases f3 with h | h
      · exact h
      · exact absurd (end_all M hM).1 h
    subst hM0
    have e0 : fl = 0 := f1
    subst e0
    have ev : vs = [] := by
      cases f2; rfl
    subst ev
    have hsz : ∀ t, StrsAre ([] ++ [.str (Str.ofString "0x0") t]) [Str.ofString "0x0"] := fun t => .cons _ _ .nil
    k_steps
    rename Fr h₀ L _ _ => eF
    rename News h₀ L _ _ => eN
    exact ret _ [] _ _ eF (news_sub (l' := news) eN (fun p hp => .tail _ hp)) lt_nil ⟨_, congrArg (Value.str · _) (by decide +kernel)⟩
theorem linesC14_end : True := by
  k_with_none
  trivial
end Mine
end
section
open PySem PySem.W PyProof.Rows PySem.Calls PySem.Spec
namespace Mine
/-- crossing five: the goods in crossing order, each the least to the other of those left -/
theorem cross5 (v : Nat → Nat → Int) (p1 p2 p3 p4 p5 : Nat) : ∃ x1 x2 x3 x4 x5 : Nat,
    (crossN v [p1, p2, p3, p4, p5]).s0 = (if p1 = 0 then [x1] else []) ++ (if p2 = 0 then [x2] else []) ++ (if p3 = 0 then [x3] else []) ++ (if p4 = 0 then [x4] else []) ++ (if p5 = 0 then [x5] else []) ∧
    (crossN v [p1, p2, p3, p4, p5]).s1 = (if p1 = 0 then [] else [x1]) ++ (if p2 = 0 then [] else [x2]) ++ (if p3 = 0 then [] else [x3]) ++ (if p4 = 0 then [] else [x4]) ++ (if p5 = 0 then [] else [x5]) ∧
    (v (1 - p1) x1 ≤ v (1 - p1) x2 ∧ v (1 - p1) x1 ≤ v (1 - p1) x3 ∧ v (1 - p1) x1 ≤ v (1 - p1) x4 ∧ v (1 - p1) x1 ≤ v (1 - p1) x5) ∧
    (v (1 - p2) x2 ≤ v (1 - p2) x3 ∧ v (1 - p2) x2 ≤ v (1 - p2) x4 ∧ v (1 - p2) x2 ≤ v (1 - p2) x5) ∧
    (v (1 - p3) x3 ≤ v (1 - p3) x4 ∧ v (1 - p3) x3 ≤ v (1 - p3) x5) ∧
    v (1 - p4) x4 ≤ v (1 - p4) x5 := by
  have e0 : ([0, 1, 2, 3, 4] : List Nat).length = 5 := rfl
  obtain ⟨l0, hl0⟩ : ∃ l, l = [0, 1, 2, 3, 4] := ⟨_, rfl⟩
  rw [← hl0] at e0
  obtain ⟨x1, h1⟩ : ∃ x, x = argmin (v (1 - p1)) l0 := ⟨_, rfl⟩
  obtain ⟨l1, g1⟩ : ∃ l, l = l0.erase x1 := ⟨_, rfl⟩
  obtain ⟨x2, h2⟩ : ∃ x, x = argmin (v (1 - p2)) l1 := ⟨_, rfl⟩
  obtain ⟨l2, g2⟩ : ∃ l, l = l1.erase x2 := ⟨_, rfl⟩
  obtain ⟨x3, h3⟩ : ∃ x, x = argmin (v (1 - p3)) l2 := ⟨_, rfl⟩
  obtain ⟨l3, g3⟩ : ∃ l, l = l2.erase x3 := ⟨_, rfl⟩
  obtain ⟨x4, h4⟩ : ∃ x, x = argmin (v (1 - p4)) l3 := ⟨_, rfl⟩
  obtain ⟨l4, g4⟩ : ∃ l, l = l3.erase x4 := ⟨_, rfl⟩
  obtain ⟨x5, h5⟩ : ∃ x, x = argmin (v (1 - p5)) l4 := ⟨_, rfl⟩
  have mem : ∀ {l : List Nat} {n : Nat} {x : Nat} {f : Nat → Int}, l.length = n + 1 → x = argmin f l → x ∈ l ∧ (l.erase x).length = n := by
    intro l n x f hl hx
    have hne : l ≠ [] := fun e => by rw [e] at hl; cases hl
    have hm : x ∈ l := hx ▸ argmin_mem hne
    exact ⟨hm, by rw [List.length_erase_of_mem hm, hl]; rfl⟩
  obtain ⟨m1, e1⟩ := mem e0 h1
  rw [← g1] at e1
  obtain ⟨m2, e2⟩ := mem e1 h2
  rw [← g2] at e2
  obtain ⟨m3, e3⟩ := mem e2 h3
  rw [← g3] at e3
  obtain ⟨m4, e4⟩ := mem e3 h4
  rw [← g4] at e4
  obtain ⟨m5, _⟩ := mem e4 h5
  have s1 : ∀ y ∈ l1, y ∈ l0 := fun y hy => List.mem_of_mem_erase (g1 ▸ hy)
  have s2 : ∀ y ∈ l2, y ∈ l1 := fun y hy => List.mem_of_mem_erase (g2 ▸ hy)
  have s3 : ∀ y ∈ l3, y ∈ l2 := fun y hy => List.mem_of_mem_erase (g3 ▸ hy)
  have s4 : ∀ y ∈ l4, y ∈ l3 := fun y hy => List.mem_of_mem_erase (g4 ▸ hy)
  have a1 : ∀ y ∈ l0, v (1 - p1) x1 ≤ v (1 - p1) y := fun y hy => h1 ▸ argmin_le y hy
  have a2 : ∀ y ∈ l1, v (1 - p2) x2 ≤ v (1 - p2) y := fun y hy => h2 ▸ argmin_le y hy
  have a3 : ∀ y ∈ l2, v (1 - p3) x3 ≤ v (1 - p3) y := fun y hy => h3 ▸ argmin_le y hy
  have a4 : ∀ y ∈ l3, v (1 - p4) x4 ≤ v (1 - p4) y := fun y hy => h4 ▸ argmin_le y hy
  have ec : crossN v [p1, p2, p3, p4, p5] = stepC v (stepC v (stepC v (stepC v (stepC v ⟨l0, [], []⟩ p1) p2) p3) p4) p5 := by rw [hl0]; rfl
  refine ⟨x1, x2, x3, x4, x5, ?_, ?_, ⟨a1 _ (s1 _ m2), a1 _ (s1 _ (s2 _ m3)), a1 _ (s1 _ (s2 _ (s3 _ m4))), a1 _ (s1 _ (s2 _ (s3 _ (s4 _ m5))))⟩, ⟨a2 _ (s2 _ m3), a2 _ (s2 _ (s3 _ m4)), a2 _ (s2 _ (s3 _ (s4 _ m5)))⟩, ⟨a3 _ (s3 _ m4), a3 _ (s3 _ (s4 _ m5))⟩, a4 _ (s4 _ m5)⟩
  all_goals
    rw [ec]
    unfold stepC
    dsimp only
    rw [← h1, ← g1, ← h2, ← g2, ← h3, ← g3, ← h4, ← g4, ← h5]
    rcases Nat.decEq p1 0 with h | h <;> rcases Nat.decEq p2 0 with k | k <;> rcases Nat.decEq p3 0 with q | q <;> rcases Nat.decEq p4 0 with r | r <;> rcases Nat.decEq p5 0 with z | z <;> simp only [h, k, q, r, z, if_true, if_false, List.nil_append, List.append_nil, List.append_assoc, List.cons_append]
theorem desc_is {Ls : List Int} {l g : List Nat} {f : Nat → Int} (hp : Ls.Perm (g.map f)) (hd : Ls.Pairwise fun a b => b ≤ a) (hg : g.Perm l) (hl : (l.map f).Pairwise fun a b => b ≤ a) : Ls = l.map f :=
  List.Perm.eq_of_pairwise (le := fun a b => b ≤ a) (fun a b _ _ h1 h2 => Int.le_antisymm h2 h1) hd hl (hp.trans (hg.map _))
set_option maxHeartbeats 8000000 in
theorem content_of {v : Nat → Nat → Int} {p1 p2 p3 p4 p5 : Nat} {g0 g1 : List Nat} (h1 : p1 < 2) (h2 : p2 < 2) (h3 : p3 < 2) (h4 : p4 < 2) (h5 : p5 < 2) (hv : ∀ p g, 0 ≤ v p g)
    (q0 : g0.Perm (crossN v [p1, p2, p3, p4, p5]).s0) (q1 : g1.Perm (crossN v [p1, p2, p3, p4, p5]).s1) : Content v [p5, p4, p3, p2, p1] g0 g1 := by
  obtain ⟨x1, x2, x3, x4, x5, e0, e1, ⟨a1, a2, a3, a4⟩, ⟨b1, b2, b3⟩, ⟨c1, c2⟩, d1⟩ := cross5 v p1 p2 p3 p4 p5
  rw [e0] at q0
  rw [e1] at q1
  replace q0 := q0.trans (List.reverse_perm _).symm
  replace q1 := q1.trans (List.reverse_perm _).symm
  clear e0 e1
  have u1 := hv 0 x1
  have u2 := hv 0 x2
  have u3 := hv 0 x3
  have u4 := hv 0 x4
  have u5 := hv 0 x5
  have w1 := hv 1 x1
  have w2 := hv 1 x2
  have w3 := hv 1 x3
  have w4 := hv 1 x4
  have w5 := hv 1 x5
  have k1 : p1 = 0 ∨ p1 = 1 := by omega
  have k2 : p2 = 0 ∨ p2 = 1 := by omega
  have k3 : p3 = 0 ∨ p3 = 1 := by omega
  have k4 : p4 = 0 ∨ p4 = 1 := by omega
  have k5 : p5 = 0 ∨ p5 = 1 := by omega
  clear h1 h2 h3 h4 h5 hv
  rcases k1 with rfl | rfl <;> rcases k2 with rfl | rfl <;> rcases k3 with rfl | rfl <;> rcases k4 with rfl | rfl <;> rcases k5 with rfl | rfl
  all_goals
    simp only [Nat.sub_zero, Nat.sub_self, if_true, Nat.one_ne_zero, if_false, List.nil_append, List.append_nil, List.cons_append, List.reverse_cons, List.reverse_nil] at q0 q1 a1 a2 a3 a4 b1 b2 b3 c1 c2 d1
    have z0 := sumI_perm (q0.map (v 0))
    have z1 := sumI_perm (q1.map (v 1))
    refine ⟨fun Ls hp hd => ?_, fun Ls hp hd => ?_⟩
    · rw [z1, desc_is hp hd q0 (by simp only [List.map_cons, List.map_nil, List.pairwise_cons, List.mem_cons, List.not_mem_nil, or_false, forall_eq_or_imp, forall_eq, false_implies, implies_true, List.Pairwise.nil, and_true]; try omega)]
      simp [aheadN, stepA] <;> omega
    · rw [z0, desc_is hp hd q1 (by simp only [List.map_cons, List.map_nil, List.pairwise_cons, List.mem_cons, List.not_mem_nil, or_false, forall_eq_or_imp, forall_eq, false_implies, implies_true, List.Pairwise.nil, and_true]; try omega)]
      simp [aheadN, stepA] <;> omega
end Mine
end
section
open PySem PySem.W PyProof.Rows PySem.Calls PySem.Spec
namespace Mine
theorem ahead_all {p1 p2 p3 p4 p5 q : Nat} (h1 : p1 < 2) (h2 : p2 < 2) (h3 : p3 < 2) (h4 : p4 < 2) (h5 : p5 < 2) (h6 : q < 2) : 0 ≤ aheadN [p1, p2, p3, p4, p5] q ∧ aheadN [p1, p2, p3, p4, p5] q ≤ 5 := by
  have k1 : p1 = 0 ∨ p1 = 1 := by omega
  have k2 : p2 = 0 ∨ p2 = 1 := by omega
  have k3 : p3 = 0 ∨ p3 = 1 := by omega
  have k4 : p4 = 0 ∨ p4 = 1 := by omega
  have k5 : p5 = 0 ∨ p5 = 1 := by omega
  have k6 : q = 0 ∨ q = 1 := by omega
  rcases k1 with rfl | rfl <;> rcases k2 with rfl | rfl <;> rcases k3 with rfl | rfl <;> rcases k4 with rfl | rfl <;> rcases k5 with rfl | rfl <;> rcases k6 with rfl | rfl <;> decide
theorem five {α : Type} {l : List α} (h : l.length = 5) : ∃ a b c d e, l = [a, b, c, d, e] := by
  match l, h with
  | [a, b, c, d, e], _ => exact ⟨a, b, c, d, e, rfl⟩
theorem ahead_bd {ts : List Nat} (hl : ts.length = 5) (h2 : ∀ p ∈ ts, p < 2) : ∀ q < 2, 0 ≤ aheadN ts q ∧ aheadN ts q ≤ 5 := by
  obtain ⟨a, b, c, d, e, rfl⟩ := five hl
  simp only [List.forall_mem_cons] at h2
  obtain ⟨ha, hb, hc, hd, he, _⟩ := h2
  exact fun q hq => ahead_all ha hb hc hd he hq
theorem content_ts {v : Nat → Nat → Int} {ts g0 g1 : List Nat} (hl : ts.length = 5) (h2 : ∀ p ∈ ts, p < 2) (hv : ∀ p g, 0 ≤ v p g)
    (q0 : g0.Perm (crossN v ts.reverse).s0) (q1 : g1.Perm (crossN v ts.reverse).s1) : Content v ts g0 g1 := by
  obtain ⟨a, b, c, d, e, rfl⟩ := five hl
  simp only [List.forall_mem_cons] at h2
  obtain ⟨ha, hb, hc, hd, he, _⟩ := h2
  exact content_of he hd hc hb ha hv q0 q1
/-- all that the law asks of the shares, together -/
theorem shares_law {v : Nat → Nat → Int} {ts : List Nat} {n0 n1 : List Int} (hl : ts.length = 5) (h2 : ∀ p ∈ ts, p < 2) (hv : ∀ p g, 0 ≤ v p g)
    (hp : ((crossN v ts.reverse).s0 ++ (crossN v ts.reverse).s1).Perm [0, 1, 2, 3, 4])
    (o0 : n0.Pairwise (· ≤ ·)) (o1 : n1.Pairwise (· ≤ ·)) (r0 : n0.Perm ((crossN v ts.reverse).s0.map fun x : Nat => (x : Int))) (r1 : n1.Perm ((crossN v ts.reverse).s1.map fun x : Nat => (x : Int))) :
    ∃ M, M < 32 ∧ n0 = nints (goodsOf M) ∧ n1 = nints (goodsOf (31 - M)) ∧ (endOf v ts 31).1 = ((((goodsOf M).map (8 ^ ·)).sum : Nat) : Int) ∧ 4681 - (endOf v ts 31).1 = ((((goodsOf (31 - M)).map (8 ^ ·)).sum : Nat) : Int) ∧ Content v ts (goodsOf M) (goodsOf (31 - M)) := by
  obtain ⟨M, hM, e0, e1⟩ := share_mask hp
  have hg : (endOf v ts 31).1 = sum8 (goodsOf M) := by rw [got_sum, sum8_perm e0]
  refine ⟨M, hM, sorted_is o0 r0 e0 (goodsOf_sorted M hM), sorted_is o1 r1 e1 (goodsOf_sorted _ (by omega)), ?_, ?_, content_ts hl h2 hv e0.symm e1.symm⟩
  · rw [hg]; exact (sum8_flag M hM).1
  · rw [hg]; exact (sum8_flag M hM).2
end Mine
end
section
open PySem PySem.W PyProof.Rows PySem.Calls PySem.Spec
namespace Mine
noncomputable def vN (n : Nat → Int) (p g : Nat) : Int := (if p = 0 then firstL n else secondL n).getD g 0
noncomputable def tsN (n : Nat → Int) : List Nat := [pi (n 0), pi (n 1), pi (n 2), pi (n 3), pi (n 4)]
theorem turn_ts (n : Nat → Int) : turnL n = nints (tsN n) := rfl
theorem vN_mod (n : Nat → Int) (p : Nat) {g : Nat} (h : g < 5) : vN n p g % 5 = g := by
  have k : g = 0 ∨ g = 1 ∨ g = 2 ∨ g = 3 ∨ g = 4 := by omega
  unfold vN
  split <;> rcases k with rfl | rfl | rfl | rfl | rfl <;> simp only [firstL, secondL, List.getD_cons_zero, List.getD_cons_succ] <;> omega
theorem vN_tells (n : Nat → Int) (p : Nat) : Tells0 (vN n p) (List.range 5) := by
  intro x hx y hy e
  have h1 := vN_mod n p (List.mem_range.mp hx)
  have h2 := vN_mod n p (List.mem_range.mp hy)
  rw [e] at h1
  omega
theorem fair_n {n : Nat → Int} (hp : ∀ i < 5, pi (n i) < 2) : Fair (vN n) (tsN n) where
  len := rfl
  two := by
    unfold tsN
    simp only [List.forall_mem_cons]
    exact ⟨hp 0 (by decide), hp 1 (by decide), hp 2 (by decide), hp 3 (by decide), hp 4 (by decide), fun _ h => nomatch h⟩
  ap0 := vN_tells n 0
  ap1 := vN_tells n 1
theorem gv_bd (x : Int) : gv x < 1114112 := (good_facts (gi x) (by unfold gi; omega)).2.1
theorem codes_bd (k : Nat) {p : Int} (h0 : 0 ≤ p) (h1 : p < 5) : 0 ≤ codesOf k p ∧ codesOf k p ≤ 5000 := by
  unfold codesOf
  split <;> omega
theorem vN_bd (n : Nat → Int) (p g : Nat) : 0 ≤ vN n p g ∧ vN n p g ≤ 10000000 := by
  have a0 := gv_bd (n 0)
  have a1 := gv_bd (n 1)
  have a2 := gv_bd (n 2)
  have a3 := gv_bd (n 3)
  have a4 := gv_bd (n 4)
  have b0 := codes_bd (gc (n 0)) (p := 0) (by decide) (by decide)
  have b1 := codes_bd (gc (n 1)) (p := 1) (by decide) (by decide)
  have b2 := codes_bd (gc (n 2)) (p := 2) (by decide) (by decide)
  have b3 := codes_bd (gc (n 3)) (p := 3) (by decide) (by decide)
  have b4 := codes_bd (gc (n 4)) (p := 4) (by decide) (by decide)
  unfold vN
  rcases Nat.lt_or_ge g 5 with h | h
  · have k : g = 0 ∨ g = 1 ∨ g = 2 ∨ g = 3 ∨ g = 4 := by omega
    split <;> rcases k with rfl | rfl | rfl | rfl | rfl <;> simp only [firstL, secondL, List.getD_cons_zero, List.getD_cons_succ] <;> omega
  · have z : ∀ l : List Int, l.length = 5 → l.getD g 0 = 0 := fun l hl => by
      rw [List.getD_eq_getElem?_getD, List.getElem?_eq_none (by omega)]; rfl
    split
    · rw [z _ rfl]; omega
    · rw [z _ rfl]; omega
theorem first_v (n : Nat → Int) : firstL n = (List.range 5).map (vN n 0) := rfl
theorem second_v (n : Nat → Int) : secondL n = (List.range 5).map (vN n 1) := rfl
theorem pi_lt (x : Int) : pi x < 2 := by unfold pi; omega
theorem fairN (n : Nat → Int) : Fair (vN n) (tsN n) := fair_n fun i _ => pi_lt _
end Mine
end
section
open PySem PySem.W PyProof.Rows PySem.Calls PySem.Spec
set_option maxRecDepth 100000
namespace Mine
noncomputable def SegP (h₀ : Heap) (L : Addr) (s : Shared) (R : (Str → Option Value) → Led → Prop) (f : Flow) (s' : Shared) : Prop := f = .next ∧ ∃ h' tk m' news, s' = { s with heap := h', toks := tk } ∧ Fr h₀ L h' m' ∧ News h₀ L h' news ∧ R m' news
section
variable {prog : Program} {w : World} {A : Around} {E : Value → Shared → Prop} {Q : Flow → Shared → Prop} {s : Shared} {h₀ : Heap} {L : Addr} {env : Env}
theorem seg_cons {st : Stmt} {rest : List Stmt} {R : (Str → Option Value) → Led → Prop} (h1 : wpAny (model prog w) A (exec st env) (SegP h₀ L s R) E s)
    (h2 : ∀ h' tk m' news, Fr h₀ L h' m' → News h₀ L h' news → R m' news → wpAny (model prog w) A (execs rest env) Q E { s with heap := h', toks := tk }) : wpAny (model prog w) A (execs (st :: rest) env) Q E s := by
  refine wpAny_execs_cons (wpAny_mono h1 (fun f s' q => ?_) fun _ _ e => e)
  obtain ⟨rfl, h', tk, m', news, rfl, F, N, r⟩ := q
  exact h2 h' tk m' news F N r
end
theorem SegP.intro {h₀ : Heap} {L : Addr} {s : Shared} {R : (Str → Option Value) → Led → Prop} {h' : Heap} {tk : Nat} {m' : Str → Option Value} {news' : Led} (news : Led) (F : Fr h₀ L h' m') (N : News h₀ L h' news') (hs : ∀ p ∈ news, p ∈ news') (r : R m' news) :
    SegP h₀ L s R .next { s with heap := h', toks := tk } := ⟨rfl, h', tk, m', news, rfl, F, news_sub N hs, r⟩
noncomputable abbrev lawEnv (L fa : Addr) (cd : Value) : Env := envOfC (Str.ofString "law") sc25 L fa cd
noncomputable def lst0 : Stmt := by
  refine' (_ : (f : Stmt) → f = (bd25.getD 0 default) → Stmt) _ _
  · exact fun f _ => f
  rotate_left
  · conv => rhs; whnf
noncomputable def lst1 : Stmt := by
  refine' (_ : (f : Stmt) → f = (bd25.getD 1 default) → Stmt) _ _
  · exact fun f _ => f
  rotate_left
  · conv => rhs; whnf
noncomputable def lst2 : Stmt := by
  refine' (_ : (f : Stmt) → f = (bd25.getD 2 default) → Stmt) _ _
  · exact fun f _ => f
  rotate_left
  · conv => rhs; whnf
noncomputable def lst3 : Stmt := by
  refine' (_ : (f : Stmt) → f = (bd25.getD 3 default) → Stmt) _ _
  · exact fun f _ => f
  rotate_left
  · conv => rhs; whnf
noncomputable def lst4 : Stmt := by
  refine' (_ : (f : Stmt) → f = (bd25.getD 4 default) → Stmt) _ _
  · exact fun f _ => f
  rotate_left
  · conv => rhs; whnf
noncomputable def lst5 : Stmt := by
  refine' (_ : (f : Stmt) → f = (bd25.getD 5 default) → Stmt) _ _
  · exact fun f _ => f
  rotate_left
  · conv => rhs; whnf
noncomputable def lst6 : Stmt := by
  refine' (_ : (f : Stmt) → f = (bd25.getD 6 default) → Stmt) _ _
  · exact fun f _ => f
  rotate_left
  · conv => rhs; whnf
noncomputable def lst7 : Stmt := by
  refine' (_ : (f : Stmt) → f = (bd25.getD 7 default) → Stmt) _ _
  · exact fun f _ => f
  rotate_left
  · conv => rhs; whnf
noncomputable def lst8 : Stmt := by
  refine' (_ : (f : Stmt) → f = (bd25.getD 8 default) → Stmt) _ _
  · exact fun f _ => f
  rotate_left
  · conv => rhs; whnf
noncomputable def lst9 : Stmt := by
  refine' (_ : (f : Stmt) → f = (bd25.getD 9 default) → Stmt) _ _
  · exact fun f _ => f
  rotate_left
  · conv => rhs; whnf
noncomputable def lst10 : Stmt := by
  refine' (_ : (f : Stmt) → f = (bd25.getD 10 default) → Stmt) _ _
  · exact fun f _ => f
  rotate_left
  · conv => rhs; whnf
noncomputable def lst11 : Stmt := by
  refine' (_ : (f : Stmt) → f = (bd25.getD 11 default) → Stmt) _ _
  · exact fun f _ => f
  rotate_left
  · conv => rhs; whnf
theorem bd25_eq : bd25 = [lst0, lst1, lst2, lst3, lst4, lst5, lst6, lst7, lst8, lst9, lst10, lst11] := by kernel_rfl
/-! where the law stands between its statements -/
noncomputable def St1 (L : Addr) (_ : Str → Option Value) (news : Led) : Prop := ∃ (n : Nat → Int) (D : Addr) (dv : List Value) (c : Nat) (oG oD : Obj), news = [(D, PySem.W.listOf dv.toArray c), (L + 1 + 1, oG), (L + 1, oD)] ∧
  oG.data = .cell none ∧ oD.data = .cell (some (.ref D)) ∧ IntsAre dv ((List.range 5).map n) ∧ (∀ i, 0 ≤ n i ∧ n i ≤ 100000000) ∧ @LT.lt Nat _ (L + 1 + 1) D
noncomputable def St2 (n : Nat → Int) (L : Addr) (D : Addr) (dv : List Value) (c : Nat) (oG oD : Obj) (m' : Str → Option Value) (news : Led) : Prop := ∃ (T : Addr) (tv : List Value), news = [(T, PySem.W.listOf tv.toArray tv.length), (D, PySem.W.listOf dv.toArray c), (L + 1 + 1, oG), (L + 1, oD)] ∧
  IntsAre tv (turnL n) ∧ m' (Str.ofString "turns") = some (.ref T) ∧ @Ne Nat T (L + 1 + 1)
theorem take_turn {n : Nat → Int} {k : Nat} {ys : List Value} {t : Tok} {x : Int} (h : IntsAre ys ((turnL n).take k)) (hk : k < 5) (hx : x = (n k).fmod 2) : IntsAre (ys ++ [.int x t]) ((turnL n).take (k + 1)) := by
  have e := (pform (n k)).1
  rw [← hx] at e
  subst e
  match k, hk with
  | 0, _ => exact IntsAre.append h (.cons _ _ .nil)
  | 1, _ => exact IntsAre.append h (.cons _ _ .nil)
  | 2, _ => exact IntsAre.append h (.cons _ _ .nil)
  | 3, _ => exact IntsAre.append h (.cons _ _ .nil)
  | 4, _ => exact IntsAre.append h (.cons _ _ .nil)
theorem range_item {n : Nat → Int} {dv : List Value} (h : IntsAre dv ((List.range 5).map n)) {k : Nat} {v : Value} (hv : dv[k]? = some v) : k < 5 ∧ ∃ t, v = .int (n k) t := by
  obtain ⟨x, t, e, hm⟩ := h.at k v hv
  rw [List.getElem?_map] at hm
  rcases Nat.lt_or_ge k 5 with hk | hk
  · rw [List.getElem?_range hk] at hm
    injection hm with hm
    exact ⟨hk, t, by rw [e, ← hm]⟩
  · rw [List.getElem?_eq_none (by simpa using hk)] at hm
    cases hm
inductive GoodsAre (n : Nat → Int) (b : Addr) : Nat → List Value → Led → Prop
  | nil : GoodsAre n b 0 [] []
  | snoc {i : Nat} {ys : List Value} {tl : Led} {x : Addr} {t u : Tok} {c : Nat} : GoodsAre n b i ys tl → @LT.lt Nat _ b x → GoodsAre n b (i + 1) (ys ++ [.ref x]) ((x, tupO #[.str (one (gc (n i))) t, .int (gv (n i) : Int) u] c) :: tl)
theorem GoodsAre.len {n : Nat → Int} {b : Addr} {i : Nat} {ys : List Value} {tl : Led} (h : GoodsAre n b i ys tl) : ys.length = i := by
  induction h with
  | nil => rfl
  | snoc _ _ ih => rw [List.length_append, ih]; rfl
theorem GoodsAre.above {n : Nat → Int} {b : Addr} {i : Nat} {ys : List Value} {tl : Led} (h : GoodsAre n b i ys tl) : ∀ p ∈ tl, @LT.lt Nat _ b p.1 := by
  induction h with
  | nil => exact fun _ h => nomatch h
  | snoc _ hx ih => exact List.forall_mem_cons.mpr ⟨hx, ih⟩
theorem GoodsAre.at {n : Nat → Int} {b : Addr} {i : Nat} {ys : List Value} {tl : Led} (h : GoodsAre n b i ys tl) : ∀ k, k < i → ∃ (x : Addr) (t u : Tok) (c : Nat), ys[k]? = some (.ref x) ∧ (x, tupO #[.str (one (gc (n k))) t, .int (gv (n k) : Int) u] c) ∈ tl := by
  induction h with
  | nil => exact fun _ h => absurd h (Nat.not_lt_zero _)
  | @snoc i ys tl x t u c r hx ih =>
    intro k hk
    rcases Nat.lt_or_ge k i with h | h
    · obtain ⟨x', t', u', c', e, hm⟩ := ih k h
      exact ⟨x', t', u', c', by rw [List.getElem?_append_left (by rw [r.len]; exact h)]; exact e, .tail _ hm⟩
    · have e : k = i := by omega
      subst e
      exact ⟨x, t, u, c, by rw [List.getElem?_append_right (by rw [r.len]; exact Nat.le_refl _), r.len, Nat.sub_self]; rfl, .head _⟩
noncomputable def St3 (n : Nat → Int) (L T D : Addr) (tv dv : List Value) (c : Nat) (oD : Obj) (m' : Str → Option Value) (news : Led) : Prop := ∃ (G : Addr) (gs : List Value) (tl : Led) (oG : Obj), news = (L + 1 + 1, oG) :: (G, PySem.W.listOf gs.toArray gs.length) :: (tl ++ [(T, PySem.W.listOf tv.toArray tv.length), (D, PySem.W.listOf dv.toArray c), (L + 1, oD)]) ∧
  GoodsAre n (L + 1 + 1) 5 gs tl ∧ oG.data = .cell (some (.ref G)) ∧ m' (Str.ofString "turns") = some (.ref T)
section
variable {prog : Program} {w : World} {A : Around} {s : Shared} {h₀ : Heap} {L : Addr} {m : Str → Option Value} {env : Env}
theorem restG_ind {elt : Expr} {x : Str} {scope : Scope} {cl : List (Str × Addr)} {S : Led → Prop} {P : Nat → Value → Prop} {Fin : List Value → Led → Prop} {news : Led} (Ys : Nat → List Value → Led → Prop) {n : Nat} (hS : ∀ tl, S (tl ++ news))
    (turn : ∀ i ys tl v I oI C oC D m₂ h tk (E' : Value → Shared → Prop), i < n → P i v → Ys i ys tl → LCg.NsObj oC m₂ → m₂ x = some v → Fr h₀ L h m → News h₀ L h ((I, oI) :: (C, oC) :: (D, LCg.lst ys) :: (tl ++ news)) → LCg.Off3 I C D (tl ++ news) →
      wpAny (model prog w) A (eval elt (compEnvC scope cl C env)) (fun y s₂ => ∃ h' tk' X o, s₂ = { s with heap := h', toks := tk' } ∧ Fr h₀ L h' m ∧ News h₀ L h' ((X, o) :: (I, oI) :: (C, oC) :: (D, LCg.lst ys) :: (tl ++ news)) ∧ (∀ q ∈ (I, oI) :: (C, oC) :: (D, LCg.lst ys) :: (tl ++ news), q.1 < X) ∧ Ys (i + 1) (ys ++ [y]) ((X, o) :: tl)) E' { s with heap := h, toks := tk })
    (fin : ∀ ys tl, Ys n ys tl → Fin ys (tl ++ news)) : ∀ (k i : Nat) (ys : List Value) (tl : Led), i + k = n → Ys i ys tl → LCg.CompRest prog w A h₀ L m env elt x scope cl s S P Fin k i ys (tl ++ news)
  | 0, i, ys, tl, hk, hy => LCg.CompRest.zero (fin ys tl (by have : i = n := by omega
                                                             rw [← this]; exact hy))
  | k + 1, i, ys, tl, hk, hy => LCg.CompRest.succ fun v I oI C oC D m₂ h tk E' hP hC hx F N off _ => by
    refine wpAny_mono (turn i ys tl v I oI C oC D m₂ h tk E' (by omega) hP hy hC hx F N off) (fun y s₂ q => ?_) fun _ _ e => e
    obtain ⟨h', tk', X, o, rfl, F', N', hX, hy'⟩ := q
    exact compEnd1 F' N' off hX (hS ((X, o) :: tl)) (restG_ind Ys hS turn fin k (i + 1) _ _ (by omega) hy')
end
noncomputable def toldS (n : Nat → Int) (k : Nat) : Str := ⟨#[tc (n k), gc (n k)]⟩
theorem take_told {n : Nat → Int} {k : Nat} {ys : List Value} {t : Tok} (h : StrsAre ys (((List.range 5).take k).map (toldS n))) (hk : k < 5) : StrsAre (ys ++ [.str (toldS n k) t]) (((List.range 5).take (k + 1)).map (toldS n)) :=
  take_moreS h (List.getElem?_range hk)
theorem told_join (n : Nat → Int) : Txt.join (Str.ofString "") ((List.range 5).map (toldS n)) = ⟨(toldL n).toArray⟩ := by
  rfl
theorem told_sum (n : Nat → Int) : (((List.range 5).map (toldS n)).map (·.length)).sum + ((List.range 5).map (toldS n)).length ≤ 1048576 := by
  show 2 + (2 + (2 + (2 + (2 + 0)))) + 5 ≤ 1048576
  decide
noncomputable def St4 (n : Nat → Int) (T : Addr) (news : Led) (m' : Str → Option Value) (news' : Led) : Prop := news' = news ∧ (∃ t, m' (Str.ofString "told") = some (.str ⟨(toldL n).toArray⟩ t)) ∧ m' (Str.ofString "turns") = some (.ref T)
theorem take_first {n : Nat → Int} {k : Nat} {ys : List Value} {t : Tok} {x : Int} (h : IntsAre ys ((firstL n).take k)) (hk : k < 5) (hx : x = 5 * (gv (n k) : Int) + (k : Int)) : IntsAre (ys ++ [.int x t]) ((firstL n).take (k + 1)) := by
  subst hx
  match k, hk with
  | 0, _ => exact IntsAre.append h (.cons _ _ .nil)
  | 1, _ => exact IntsAre.append h (.cons _ _ .nil)
  | 2, _ => exact IntsAre.append h (.cons _ _ .nil)
  | 3, _ => exact IntsAre.append h (.cons _ _ .nil)
  | 4, _ => exact IntsAre.append h (.cons _ _ .nil)
theorem take_second {n : Nat → Int} {k : Nat} {ys : List Value} {t : Tok} {x : Int} (h : IntsAre ys ((secondL n).take k)) (hk : k < 5) (hx : x = 5 * codesOf (gc (n k)) (k : Int) + (k : Int)) : IntsAre (ys ++ [.int x t]) ((secondL n).take (k + 1)) := by
  subst hx
  match k, hk with
  | 0, _ => exact IntsAre.append h (.cons _ _ .nil)
  | 1, _ => exact IntsAre.append h (.cons _ _ .nil)
  | 2, _ => exact IntsAre.append h (.cons _ _ .nil)
  | 3, _ => exact IntsAre.append h (.cons _ _ .nil)
  | 4, _ => exact IntsAre.append h (.cons _ _ .nil)
noncomputable def St5 (n : Nat → Int) (T : Addr) (tt : Tok) (news : Led) (m' : Str → Option Value) (news' : Led) : Prop := ∃ (F : Addr) (fv : List Value), news' = (F, PySem.W.listOf fv.toArray fv.length) :: news ∧ IntsAre fv (firstL n) ∧
  ∀ p ∈ [(Str.ofString "turns", .ref T), (Str.ofString "told", .str ⟨(toldL n).toArray⟩ tt), (Str.ofString "first", .ref F)], m' p.1 = some p.2
noncomputable def St6 (n : Nat → Int) (T F : Addr) (tv fv : List Value) (tt : Tok) (m' : Str → Option Value) (news' : Led) : Prop := ∃ (S : Addr) (sv : List Value), news' = [(S, PySem.W.listOf sv.toArray sv.length), (F, PySem.W.listOf fv.toArray fv.length), (T, PySem.W.listOf tv.toArray tv.length)] ∧ IntsAre sv (secondL n) ∧
  ∀ p ∈ [(Str.ofString "turns", .ref T), (Str.ofString "told", .str ⟨(toldL n).toArray⟩ tt), (Str.ofString "first", .ref F), (Str.ofString "second", .ref S)], m' p.1 = some p.2
noncomputable def St7 (n : Nat → Int) (T F S : Addr) (news : Led) (m' : Str → Option Value) (news' : Led) : Prop := ∃ (X T2 Wd a b : Addr) (c : HS) (cw cx : Nat), news' = (X, tupO #[.ref T2, .ref Wd] cx) :: (T2, PySem.W.listOf c.tv.toArray c.ct) :: (Wd, PySem.W.listOf #[.ref a, .ref b] cw) :: (a, PySem.W.listOf c.w0.toArray c.c0) :: (b, PySem.W.listOf c.w1.toArray c.c1) :: news ∧
  IntsAre c.tv (turnL n) ∧ IntsAre c.w0 (firstL n) ∧ IntsAre c.w1 (secondL n) ∧ ∀ p ∈ [(Str.ofString "turns", .ref T), (Str.ofString "first", .ref F), (Str.ofString "second", .ref S), (Str.ofString "heard", .ref X)], m' p.1 = some p.2
theorem encL_dbl : ∀ l : List Nat, StrLaws.dbl 34 l = encL l
  | [] => rfl
  | k :: l => by
    show (if k = 34 then k :: k :: StrLaws.dbl 34 l else k :: StrLaws.dbl 34 l) = (if k = 34 then 34 :: 34 :: encL l else k :: encL l)
    rw [encL_dbl l]
    split
    · rename_i h; rw [h]
    · rfl
theorem told_enc (n : Nat → Int) : Txt.replace ⟨(toldL n).toArray⟩ (Str.ofString "\"") (Str.ofString "\"\"") = ⟨(encL (toldL n)).toArray⟩ := by
  rw [replace_dbl _ _ _ 34 (by decide) (by decide), encL_dbl]
theorem told_resp (l : List Nat) : (Str.ofString "257 \"" ++ (⟨(encL l).toArray⟩ : Str)) ++ Str.ofString "\" is to be shared" = ⟨(respL l).toArray⟩ := by
  apply congrArg Str.mk
  apply Array.toList_inj.mp
  have e1 : (Str.ofString "257 \"").cps.toList = [50, 53, 55, 32, 34] := by decide
  have e2 : (Str.ofString "\" is to be shared").cps.toList = [34, 32, 105, 115, 32, 116, 111, 32, 98, 101, 32, 115, 104, 97, 114, 101, 100] := by decide
  simp [respL, Str.cps_append, e1, e2]
theorem enc_sz0 (n : Nat → Int) : (encL (toldL n)).length ≤ 20 := encL_len (toldL n)
theorem enc_sz1 (n : Nat → Int) : (Str.ofString "257 \"").length + (⟨(encL (toldL n)).toArray⟩ : Str).length ≤ sizeLine := by
  have h := enc_sz0 n
  have e : (⟨(encL (toldL n)).toArray⟩ : Str).length = (encL (toldL n)).length := by show (encL (toldL n)).toArray.size = _; simp
  have e1 : (Str.ofString "257 \"").length = 5 := by decide
  rw [e, e1, sizeLine_eq]; omega
theorem enc_sz2 (n : Nat → Int) : (Str.ofString "257 \"" ++ (⟨(encL (toldL n)).toArray⟩ : Str)).length + (Str.ofString "\" is to be shared").length ≤ sizeLine := by
  have h := enc_sz0 n
  have e : (Str.ofString "257 \"" ++ (⟨(encL (toldL n)).toArray⟩ : Str)).length = (Str.ofString "257 \"").length + (encL (toldL n)).length := by
    show ((Str.ofString "257 \"").cps ++ (encL (toldL n)).toArray).size = _
    rw [Array.size_append, List.size_toArray]; rfl
  have e1 : (Str.ofString "257 \"").length = 5 := by decide
  have e2 : (Str.ofString "\" is to be shared").length = 17 := by decide
  rw [e, e1, e2, sizeLine_eq]; omega
theorem range_len5 {n : Nat → Int} {dv : List Value} (h : IntsAre dv ((List.range 5).map n)) : dv.length = 5 := by
  rw [h.length, List.length_map, List.length_range]
end Mine
end
section
open PySem PySem.W PyProof.Rows PySem.Calls PySem.Spec
namespace Mine
theorem linesW1_1 : True := by
  k_with "call ref" => (k_here; (with_reducible show wpAny _ _ (call (Value.ref 145) _) _ _ _); k_dflt (refine' Ct.use (C_drawn _ _ _ _ _ _ _) (by w_strict (k_asm)) (by w_strict (k_asm)) (by w_strict (k_asm)) (by w_strict (k_asm)) (by w_strict (k_asm)) rfl (by w_strict (exact ⟨by assumption, by assumption, by assumption⟩)) (by w_strict (ktr_room)) (by w_strict (ktr_units)) ?_; intro _ _ _ _ _ N9 l9 hP9; obtain ⟨_, _, _, _, _, _, _, _, _, _, _, _, ea, eb, _, _, _, _, _⟩ := hP9; subst ea; subst eb; (try dsimp only [List.cons_append, List.nil_append] at N9); (replace l9 := lt_use l9); (try k_lt l9)); (try (revert N9 l9; intro _ _)))
  trivial
theorem drawn_bd {d0 d1 d2 d3 d4 : Int} (b0 : 0 ≤ d0 ∧ d0 ≤ 100000000) (b1 : 0 ≤ d1 ∧ d1 ≤ 100000000) (b2 : 0 ≤ d2 ∧ d2 ≤ 100000000) (b3 : 0 ≤ d3 ∧ d3 ≤ 100000000) (b4 : 0 ≤ d4 ∧ d4 ≤ 100000000) : ∀ i, 0 ≤ [d0, d1, d2, d3, d4].getD i 0 ∧ [d0, d1, d2, d3, d4].getD i 0 ≤ 100000000
  | 0 => b0
  | 1 => b1
  | 2 => b2
  | 3 => b3
  | 4 => b4
  | _ + 5 => by show (0 : Int) ≤ 0 ∧ (0 : Int) ≤ _; omega
set_option maxRecDepth 100000 in
set_option maxHeartbeats 8000000 in
theorem seg1 {w : World} {mean : ExcName → Option Value} {mg mb : Str → Option Value} {h₀ : Heap} {L fa l : Addr} {cd : Value} {s : Shared} {E : Value → Shared → Prop} {u : Str → Option Value} {vs : List Value} {ns : List Int} {oG oD : Obj}
    (B : Below callerA h₀ [] h₀) (F : Fr h₀ L s.heap (kstB u [(Str.ofString "script", .ref l)])) (X : (K w.params).In h₀) (N : News h₀ L s.heap [(L + 1 + 1, oG), (L + 1, oD)]) (T : Top vw (looseW vw looseN) mean mg mb h₀)
    (hl : h₀.IsList l vs.toArray) (hi : IntsAre vs ns) (hn : ns.length < 2 ^ 20) (dG : oG.data = .cell none) (dD : oD.data = .cell none) :
    wpAny (model PySem.Challenge.pw_wk0036_01 w) (callerA.deeper (lawEnv L fa cd)) (exec lst0 (lawEnv L fa cd)) (SegP h₀ L s (St1 L)) E s := by
  delta lst0
  k_steps
  rename_i h9 tk9 x d0 d1 d2 d3 d4 t0 t1 t2 t3 t4 c9 b0 b1 b2 b3 b4 l h' o' F' N' d'
  exact SegP.intro _ F' N' (fun p hp => hp) ⟨fun i => [d0, d1, d2, d3, d4].getD i 0, x, [.int d0 t0, .int d1 t1, .int d2 t2, .int d3 t3, .int d4 t4], c9, oG, o', rfl, dG, d', .cons _ _ (.cons _ _ (.cons _ _ (.cons _ _ (.cons _ _ .nil)))), drawn_bd b0 b1 b2 b3 b4, l.1⟩
theorem linesW1_2 : True := by
  k_with "exec Assign cons ListComp" => (k_here; k_dflt (refine LCg.Assign_ListComp_U (F₀ := by k_asm) (by rfl) (by with_unfolding_all rfl) (by with_unfolding_all rfl) (by decide) (by rfl) (by decide) (by rfl) (by rfl) (by rfl) ?_); k_dflt lcg_toSrc)
  k_with "CompSrc" => (refine Stop.go ?_)
  trivial
set_option maxRecDepth 100000 in
set_option maxHeartbeats 8000000 in
theorem seg2 {w : World} {mean : ExcName → Option Value} {mg mb : Str → Option Value} {h₀ : Heap} {L fa D : Addr} {cd : Value} {s : Shared} {E : Value → Shared → Prop} {m : Str → Option Value} {dv : List Value} {c : Nat} {n : Nat → Int} {oG oD : Obj}
    (B : Below callerA h₀ [] h₀) (F : Fr h₀ L s.heap m) (X : (K w.params).In h₀) (N : News h₀ L s.heap [(D, PySem.W.listOf dv.toArray c), (L + 1 + 1, oG), (L + 1, oD)]) (T : Top vw (looseW vw looseN) mean mg mb h₀)
    (hd : IntsAre dv ((List.range 5).map n)) (dD : oD.data = .cell (some (.ref D))) :
    wpAny (model PySem.Challenge.pw_wk0036_01 w) (callerA.deeper (lawEnv L fa cd)) (exec lst1 (lawEnv L fa cd)) (SegP h₀ L s (St2 n L D dv c oG oD)) E s := by
  delta lst1
  k_steps
  refine Stop.mk ?_
  have h5 := range_len5 hd
  refine LCg.CompSrc.ledger rfl (by k_asm) (by k_asm) (by k_mem) (by exact sz_of h5 (by decide)) (fun g1 => rest_ind (fun k ys => IntsAre ys ((turnL n).take k)) (n := _) (by exact .inr ⟨_, by k_mem, rfl, _, rfl⟩) ?_ ?_ _ 0 [] (by simp; rfl) .nil)
  · intro k ys v2 I2 oI2 C2 oC2 D2 m2 h2' tk2 E2 hk2 hv2 hy2 hC2 hx2 F2 N2 off2
    obtain ⟨hk5, tg, rfl⟩ := range_item hd (by simpa using hv2)
    k_steps
    all_goals first | rfl | assumption | exact take_turn hy2 hk5 rfl
  · intro ys hy
    refine finA_of fun D2 h2' tk2 F2 N2 oD2 => ?_
    have hy' : IntsAre ys (turnL n) := by rw [h5] at hy; exact hy
    exact SegP.intro _ F2 N2 (fun p hp => hp) ⟨D2, ys, rfl, hy', rfl, (oD2 (L + 1 + 1, oG) (by k_mem)).symm⟩
theorem linesW1_end : True := by
  k_with_none
  trivial
end Mine
end
section
open PySem PySem.W PyProof.Rows PySem.Calls PySem.Spec
namespace Mine
theorem linesW2_1 : True := by
  k_with "call ref" => (k_here; (with_reducible show wpAny _ _ (call (Value.ref 159) _) _ _ _); k_dflt (refine' Ct.use (C_good _ _ _ _ _ _) (by w_strict (k_asm)) (by w_strict (k_asm)) (by w_strict (k_asm)) (by w_strict (k_asm)) (by w_strict (k_asm)) rfl (by w_strict (trivial)) (by w_strict (ktr_room)) (by w_strict (ktr_units)) ?_; intro _ _ _ _ _ N9 l9 hP9; obtain ⟨_, _, _, _, ea, eb⟩ := hP9; subst ea; subst eb; (try dsimp only [List.cons_append, List.nil_append] at N9); (have l9 := lt_use l9)); (try (revert N9 l9; intro _ _)))
  k_with "eval ListComp" => (k_here; k_dflt (refine LCg.ListComp_U (F₀ := by k_asm) (by with_unfolding_all rfl) (by decide) (by rfl) (by decide) (by rfl) ?_); k_dflt lcg_toSrc)
  k_with "CompSrc" => (refine Stop.go ?_)
  trivial
set_option maxRecDepth 100000 in
set_option maxHeartbeats 8000000 in
theorem seg3 {w : World} {mean : ExcName → Option Value} {mg mb : Str → Option Value} {h₀ : Heap} {L fa T D : Addr} {cd : Value} {s : Shared} {E : Value → Shared → Prop} {u : Str → Option Value} {tv dv : List Value} {c : Nat} {n : Nat → Int} {oG oD : Obj}
    (B : Below callerA h₀ [] h₀) (F : Fr h₀ L s.heap (kstB u [(Str.ofString "turns", .ref T)])) (X : (K w.params).In h₀) (N : News h₀ L s.heap [(T, PySem.W.listOf tv.toArray tv.length), (D, PySem.W.listOf dv.toArray c), (L + 1 + 1, oG), (L + 1, oD)]) (Tp : Top vw (looseW vw looseN) mean mg mb h₀)
    (hd : IntsAre dv ((List.range 5).map n)) (dG : oG.data = .cell none) (dD : oD.data = .cell (some (.ref D))) (nD : @LT.lt Nat _ (L + 1 + 1) D) (nT : @Ne Nat T (L + 1 + 1)) :
    wpAny (model PySem.Challenge.pw_wk0036_01 w) (callerA.deeper (lawEnv L fa cd)) (exec lst2 (lawEnv L fa cd)) (SegP h₀ L s (St3 n L T D tv dv c oD)) E s := by
  delta lst2
  refine wpAny_Assign_Name ?_
  k_steps
  refine Stop.mk ?_
  have h5 := range_len5 hd
  refine LCg.CompSrc.ledger rfl (by k_asm) (by k_asm) (by k_mem) (by exact sz_of h5 (by decide)) (fun g1 => restG_ind (fun k ys tl => GoodsAre n (L + 1 + 1) k ys tl) (n := _) (fun tl => .inr ⟨_, List.mem_append.mpr (.inr (by k_mem)), rfl, _, rfl⟩) ?_ ?_ _ 0 [] [] (by simp; rfl) .nil)
  · intro k ys tl v2 I2 oI2 C2 oC2 D2 m2 h2' tk2 E2 hk2 hv2 hy2 hC2 hx2 F2 N2 off2
    obtain ⟨hk5, tg, rfl⟩ := range_item hd (by simpa using hv2)
    clear F N
    k_steps
    all_goals first | rfl | assumption | (rename (∀ q ∈ _, _ < _) => zl; exact zl _ (by assumption)) | exact GoodsAre.snoc hy2 (by
      rename (∀ q ∈ _, _ < _) => zl
      exact zl (L + 1 + 1, oG) (by repeat (first | exact List.mem_append.mpr (.inr (by k_mem)) | refine List.Mem.tail _ ?_)))
  · intro ys tl hy
    rw [h5] at hy
    refine finE_of fun D2 h2' tk2 F2 N2 oD2 => ?_
    have hab := hy.above
    have N3 : News h₀ L h2' ((L + 1 + 1, oG) :: (D2, PySem.W.listOf ys.toArray ys.length) :: (tl ++ [(T, PySem.W.listOf tv.toArray tv.length), (D, PySem.W.listOf dv.toArray c), (L + 1, oD)])) := news_sub N2 (by
      intro p hp
      simp only [List.mem_cons, List.mem_append, List.not_mem_nil, or_false] at hp ⊢
      rcases hp with h | h | h | h | h | h <;> simp only [h, true_or, or_true])
    refine storeX_C F2 N3 rfl (UpdF.head ?_) dG ?_
    · intro p hp
      simp only [List.mem_cons, List.mem_append, List.not_mem_nil, or_false] at hp
      rcases hp with rfl | hp | rfl | rfl | rfl
      · exact (oD2 (L + 1 + 1, oG) (by repeat (first | exact List.mem_append.mpr (.inr (by k_mem)) | refine List.Mem.tail _ ?_))).symm
      · exact Nat.ne_of_gt (hab p hp)
      · exact nT
      · exact Nat.ne_of_gt nD
      · exact Nat.ne_of_lt (Nat.lt_succ_self _)
    · intro h3 o3 F3 N3 d3
      exact SegP.intro _ F3 N3 (fun p hp => hp) ⟨D2, ys, tl, o3, rfl, hy, d3, rfl⟩
theorem linesW2_end : True := by
  k_with_none
  trivial
end Mine
end
section
open PySem PySem.W PyProof.Rows PySem.Calls PySem.Spec
namespace Mine
theorem linesW3_1 : True := by
  k_with "call ref" => (k_here; (with_reducible show wpAny _ _ (call (Value.ref 152) _) _ _ _); k_dflt (refine' Ct.use (C_turn _ _ _ _ _ _) (by w_strict (k_asm)) (by w_strict (k_asm)) (by w_strict (k_asm)) (by w_strict (k_asm)) (by w_strict (k_asm)) rfl (by w_strict (trivial)) (by w_strict (ktr_room)) (by w_strict (ktr_units)) ?_; intro _ _ _ _ _ N9 l9 hP9; obtain ⟨ea, _, eb⟩ := hP9; subst ea; subst eb; (try dsimp only [List.cons_append, List.nil_append] at N9); clear l9); (try (revert N9; intro _)))
  k_with "eval ListComp" => (k_here; k_dflt (refine LCg.ListComp_U (F₀ := by k_asm) (by with_unfolding_all rfl) (by decide) (by rfl) (by decide) (by rfl) ?_); k_dflt lcg_toSrc)
  k_with "CompSrc" => (refine Stop.go ?_)
  k_with "subscriptTail" => (k_here; (with_reducible show wpAny _ _ (subscriptTail _ _ (Value.ref _) (Value.int (Nat.cast _) _)) _ _ _); k_dflt (refine' ints_itemN (by w_strict (k_asm)) (by w_strict (k_mem)) (by w_strict (with_reducible assumption)) (by w_strict (omega)) (by w_strict (with_reducible assumption)) ?_; k_whole); intro _)
  k_with "subscriptTail" => (k_here; (with_reducible show wpAny _ _ (subscriptTail _ _ (Value.ref _) (Value.int (Nat.cast _) _)) _ _ _); k_dflt (refine' val_itemN (by w_strict (k_asm)) (by w_strict (k_mem)) (by w_strict (omega)) (by w_strict (with_reducible assumption)) ?_; k_whole))
  k_with "call builtin:str.join" => (k_here; k_dflt (refine' join_listW (by w_strict (exact isl (by k_asm) (by k_mem))) (by w_strict (with_reducible assumption)) (by w_strict (decide)) (by w_strict (assumption)) ?_; k_whole); intro _ _)
  trivial
set_option maxRecDepth 100000 in
set_option maxHeartbeats 8000000 in
theorem seg4 {w : World} {mean : ExcName → Option Value} {mg mb : Str → Option Value} {h₀ : Heap} {L fa T D G : Addr} {cd : Value} {s : Shared} {E : Value → Shared → Prop} {u : Str → Option Value} {tv dv gs : List Value} {c : Nat} {n : Nat → Int} {oG oD : Obj} {tl : Led}
    (B : Below callerA h₀ [] h₀) (F : Fr h₀ L s.heap (kstB u [(Str.ofString "turns", .ref T)])) (X : (K w.params).In h₀) (N : News h₀ L s.heap ((L + 1 + 1, oG) :: (G, PySem.W.listOf gs.toArray gs.length) :: (tl ++ [(T, PySem.W.listOf tv.toArray tv.length), (D, PySem.W.listOf dv.toArray c), (L + 1, oD)]))) (Tp : Top vw (looseW vw looseN) mean mg mb h₀)
    (hd : IntsAre dv ((List.range 5).map n)) (hg : GoodsAre n (L + 1 + 1) 5 gs tl) (dG : oG.data = .cell (some (.ref G))) (dD : oD.data = .cell (some (.ref D))) :
    wpAny (model PySem.Challenge.pw_wk0036_01 w) (callerA.deeper (lawEnv L fa cd)) (exec lst3 (lawEnv L fa cd)) (SegP h₀ L s (St4 n T ((L + 1 + 1, oG) :: (G, PySem.W.listOf gs.toArray gs.length) :: (tl ++ [(T, PySem.W.listOf tv.toArray tv.length), (D, PySem.W.listOf dv.toArray c), (L + 1, oD)])))) E s := by
  have N0 : News h₀ L s.heap ((D, PySem.W.listOf dv.toArray c) :: (L + 1, oD) :: (L + 1 + 1, oG) :: (G, PySem.W.listOf gs.toArray gs.length) :: (tl ++ [(T, PySem.W.listOf tv.toArray tv.length), (D, PySem.W.listOf dv.toArray c), (L + 1, oD)])) := fun p hp => by
    rcases List.mem_cons.mp hp with rfl | hp
    · exact N _ (.tail _ (.tail _ (List.mem_append.mpr (.inr (by k_mem)))))
    · rcases List.mem_cons.mp hp with rfl | hp
      · exact N _ (.tail _ (.tail _ (List.mem_append.mpr (.inr (by k_mem)))))
      · exact N _ hp
  clear N
  delta lst3
  k_steps
  refine Stop.mk ?_
  refine LCg.CompSrc.range rfl (by k_asm) (by k_asm) (by assumption) (by decide) (by rfl) (by exact Nat.le_of_ble_eq_true rfl) (fun g1 => rest_ind (fun k ys => StrsAre ys (((List.range 5).take k).map (toldS n))) (n := 5) trivial ?_ ?_ _ 0 [] (by rfl) .nil)
  · intro k ys v2 I2 oI2 C2 oC2 D2 m2 h2' tk2 E2 hk5 hv2 hy2 hC2 hx2 F2 N2 off2
    obtain ⟨tg, rfl⟩ := hv2
    rw [Int.zero_add] at hx2
    obtain ⟨x, t, u', c', hgk, hgm⟩ := hg.at k hk5
    have hx1 : ((List.range 5).map n)[k]? = some (n k) := by rw [List.getElem?_map, List.getElem?_range hk5]; rfl
    have N3 : News h₀ L h2' ((x, tupO #[.str (one (gc (n k))) t, .int (gv (n k) : Int) u'] c') :: (I2, oI2) :: (C2, oC2) :: (D2, LCg.lst ys) :: (D, PySem.W.listOf dv.toArray c) :: (L + 1, oD) :: (L + 1 + 1, oG) :: (G, PySem.W.listOf gs.toArray gs.length) :: (tl ++ [(T, PySem.W.listOf tv.toArray tv.length), (D, PySem.W.listOf dv.toArray c), (L + 1, oD)])) := fun p hp => by
      rcases List.mem_cons.mp hp with rfl | hp
      · exact N2 _ (.tail _ (.tail _ (.tail _ (.tail _ (.tail _ (.tail _ (.tail _ (List.mem_append.mpr (.inl hgm)))))))))
      · exact N2 _ hp
    k_steps
    all_goals first | rfl | assumption | exact news_sub (by assumption) (fun p hp => .tail _ hp) | exact take_told hy2 hk5
  · intro ys hy
    refine finE_of fun D2 h2' tk2 F2 N2 oD2 => ?_
    have hy' : StrsAre ys ((List.range 5).map (toldS n)) := hy
    have hz := told_sum n
    clear hy oD2
    dsimp only
    k_steps
    rename Fr _ _ _ _ => eF
    rename News _ _ _ _ => eN
    exact SegP.intro _ eF eN (fun p hp => .tail _ (.tail _ (.tail _ hp))) ⟨rfl, ⟨_, by rw [← told_join]; rfl⟩, rfl⟩
theorem linesW3_end : True := by
  k_with_none
  trivial
end Mine
end
section
open PySem PySem.W PyProof.Rows PySem.Calls PySem.Spec
namespace Mine
theorem linesW4_1 : True := by
  k_with "call ref" => (k_here; (with_reducible show wpAny _ _ (call (Value.ref 166) _) _ _ _); k_dflt (refine' Ct.use (C_codes _ _ _ _ _ _ _ _) (by w_strict (k_asm)) (by w_strict (k_asm)) (by w_strict (k_asm)) (by w_strict (k_asm)) (by w_strict (k_asm)) rfl (by w_strict (exact ⟨by omega, by omega⟩)) (by w_strict (ktr_room)) (by w_strict (ktr_units)) ?_; intro _ _ _ _ _ N9 l9 hP9; obtain ⟨ea, _, eb⟩ := hP9; subst ea; subst eb; (try dsimp only [List.cons_append, List.nil_append] at N9); clear l9); (try (revert N9; intro _)))
  k_with "exec Assign cons ListComp" => (k_here; k_dflt (refine LCg.Assign_ListComp_U (F₀ := by k_asm) (by rfl) (by with_unfolding_all rfl) (by with_unfolding_all rfl) (by decide) (by rfl) (by decide) (by rfl) (by rfl) (by rfl) ?_); k_dflt lcg_toSrc)
  k_with "CompSrc" => (refine Stop.go ?_)
  k_with "subscriptTail" => (k_here; (with_reducible show wpAny _ _ (subscriptTail _ _ (Value.ref _) (Value.int (Nat.cast _) _)) _ _ _); k_dflt (refine' val_itemN (by w_strict (k_asm)) (by w_strict (k_mem)) (by w_strict (omega)) (by w_strict (with_reducible assumption)) ?_; k_whole))
  trivial
set_option maxRecDepth 100000 in
set_option maxHeartbeats 8000000 in
theorem seg5 {w : World} {mean : ExcName → Option Value} {mg mb : Str → Option Value} {h₀ : Heap} {L fa T D G : Addr} {cd : Value} {s : Shared} {E : Value → Shared → Prop} {u : Str → Option Value} {tv dv gs : List Value} {c : Nat} {n : Nat → Int} {oG oD : Obj} {tl : Led} {tt : Tok}
    (B : Below callerA h₀ [] h₀) (Ff : Fr h₀ L s.heap (kstB u [(Str.ofString "turns", .ref T), (Str.ofString "told", .str ⟨(toldL n).toArray⟩ tt)])) (X : (K w.params).In h₀) (N : News h₀ L s.heap ((L + 1 + 1, oG) :: (G, PySem.W.listOf gs.toArray gs.length) :: (tl ++ [(T, PySem.W.listOf tv.toArray tv.length), (D, PySem.W.listOf dv.toArray c), (L + 1, oD)]))) (Tp : Top vw (looseW vw looseN) mean mg mb h₀)
    (hg : GoodsAre n (L + 1 + 1) 5 gs tl) (dG : oG.data = .cell (some (.ref G))) :
    wpAny (model PySem.Challenge.pw_wk0036_01 w) (callerA.deeper (lawEnv L fa cd)) (exec lst4 (lawEnv L fa cd)) (SegP h₀ L s (St5 n T tt ((L + 1 + 1, oG) :: (G, PySem.W.listOf gs.toArray gs.length) :: (tl ++ [(T, PySem.W.listOf tv.toArray tv.length), (D, PySem.W.listOf dv.toArray c), (L + 1, oD)])))) E s := by
  delta lst4
  k_steps
  refine Stop.mk ?_
  refine LCg.CompSrc.range rfl (by k_asm) (by k_asm) (by assumption) (by decide) (by rfl) (by exact Nat.le_of_ble_eq_true rfl) (fun g1 => rest_ind (fun k ys => IntsAre ys ((firstL n).take k)) (n := 5) trivial ?_ ?_ _ 0 [] (by rfl) .nil)
  · intro k ys v2 I2 oI2 C2 oC2 D2 m2 h2' tk2 E2 hk5 hv2 hy2 hC2 hx2 F2 N2 off2
    obtain ⟨tg, rfl⟩ := hv2
    rw [Int.zero_add] at hx2
    obtain ⟨x, t, u', c', hgk, hgm⟩ := hg.at k hk5
    have N3 : News h₀ L h2' ((x, tupO #[.str (one (gc (n k))) t, .int (gv (n k) : Int) u'] c') :: (I2, oI2) :: (C2, oC2) :: (D2, LCg.lst ys) :: ((L + 1 + 1, oG) :: (G, PySem.W.listOf gs.toArray gs.length) :: (tl ++ [(T, PySem.W.listOf tv.toArray tv.length), (D, PySem.W.listOf dv.toArray c), (L + 1, oD)]))) := fun p hp => by
      rcases List.mem_cons.mp hp with rfl | hp
      · exact N2 _ (.tail _ (.tail _ (.tail _ ((.tail _ (.tail _ (List.mem_append.mpr (.inl hgm))))))))
      · exact N2 _ hp
    k_steps
    all_goals first | rfl | assumption | exact news_sub (by assumption) (fun p hp => .tail _ hp) | exact take_first hy2 hk5 rfl
  · intro ys hy
    have hy' : IntsAre ys (firstL n) := hy
    refine finA_of fun D2 h2' tk2 F2 N2 oD2 => ?_
    exact SegP.intro _ F2 N2 (fun p hp => hp) ⟨D2, ys, rfl, hy', by kst_all⟩
set_option maxRecDepth 100000 in
set_option maxHeartbeats 8000000 in
theorem seg6 {w : World} {mean : ExcName → Option Value} {mg mb : Str → Option Value} {h₀ : Heap} {L fa T D G : Addr} {cd : Value} {s : Shared} {E : Value → Shared → Prop} {u : Str → Option Value} {tv dv gs : List Value} {c : Nat} {n : Nat → Int} {oG oD : Obj} {tl : Led} {tt : Tok} {F : Addr} {fv : List Value}
    (B : Below callerA h₀ [] h₀) (Ff : Fr h₀ L s.heap (kstB u [(Str.ofString "turns", .ref T), (Str.ofString "told", .str ⟨(toldL n).toArray⟩ tt), (Str.ofString "first", .ref F)])) (X : (K w.params).In h₀) (N : News h₀ L s.heap ((F, PySem.W.listOf fv.toArray fv.length) :: ((L + 1 + 1, oG) :: (G, PySem.W.listOf gs.toArray gs.length) :: (tl ++ [(T, PySem.W.listOf tv.toArray tv.length), (D, PySem.W.listOf dv.toArray c), (L + 1, oD)])))) (Tp : Top vw (looseW vw looseN) mean mg mb h₀)
    (hg : GoodsAre n (L + 1 + 1) 5 gs tl) (dG : oG.data = .cell (some (.ref G))) :
    wpAny (model PySem.Challenge.pw_wk0036_01 w) (callerA.deeper (lawEnv L fa cd)) (exec lst5 (lawEnv L fa cd)) (SegP h₀ L s (St6 n T F tv fv tt)) E s := by
  delta lst5
  k_steps
  refine Stop.mk ?_
  refine LCg.CompSrc.range rfl (by k_asm) (by k_asm) (by assumption) (by decide) (by rfl) (by exact Nat.le_of_ble_eq_true rfl) (fun g1 => rest_ind (fun k ys => IntsAre ys ((secondL n).take k)) (n := 5) trivial ?_ ?_ _ 0 [] (by rfl) .nil)
  · intro k ys v2 I2 oI2 C2 oC2 D2 m2 h2' tk2 E2 hk5 hv2 hy2 hC2 hx2 F2 N2 off2
    obtain ⟨tg, rfl⟩ := hv2
    rw [Int.zero_add] at hx2
    obtain ⟨x, t, u', c', hgk, hgm⟩ := hg.at k hk5
    have N3 : News h₀ L h2' ((x, tupO #[.str (one (gc (n k))) t, .int (gv (n k) : Int) u'] c') :: (I2, oI2) :: (C2, oC2) :: (D2, LCg.lst ys) :: ((F, PySem.W.listOf fv.toArray fv.length) :: ((L + 1 + 1, oG) :: (G, PySem.W.listOf gs.toArray gs.length) :: (tl ++ [(T, PySem.W.listOf tv.toArray tv.length), (D, PySem.W.listOf dv.toArray c), (L + 1, oD)])))) := fun p hp => by
      rcases List.mem_cons.mp hp with rfl | hp
      · exact N2 _ (.tail _ (.tail _ (.tail _ (.tail _ <| (.tail _ (.tail _ (List.mem_append.mpr (.inl hgm))))))))
      · exact N2 _ hp
    k_steps
    all_goals first | rfl | assumption | exact news_sub (by assumption) (fun p hp => .tail _ hp) | exact take_second hy2 hk5 rfl
  · intro ys hy
    have hy' : IntsAre ys (secondL n) := hy
    refine finA_of fun D2 h2' tk2 F2 N2 oD2 => ?_
    exact SegP.intro [(D2, PySem.W.listOf ys.toArray ys.length), (F, PySem.W.listOf fv.toArray fv.length), (T, PySem.W.listOf tv.toArray tv.length)] F2 N2 (List.forall_mem_cons.mpr ⟨.head _, List.forall_mem_cons.mpr ⟨.tail _ (.head _), List.forall_mem_cons.mpr ⟨.tail _ (.tail _ (.tail _ (.tail _ (List.mem_append.mpr (.inr (.head _)))))), fun p hp => nomatch hp⟩⟩⟩) ⟨D2, ys, rfl, hy', by kst_all⟩
theorem linesW4_end : True := by
  k_with_none
  trivial
end Mine
end
section
open PySem PySem.W PyProof.Rows PySem.Calls PySem.Spec
namespace Mine
theorem linesW5_1 : True := by
  k_with "binaryOp Add str str" => (k_here; k_dflt (refine PyProof.Rows.add_str ?_ (by w_strict (first | exact enc_sz1 _ | exact enc_sz2 _)); intro _ _; (try rw [told_resp])))
  k_with "call ref" => (k_here; (with_reducible show wpAny _ _ (call (Value.ref 61) _) _ _ _); k_dflt (refine' Ct.use (C_parse _ _ _ _ _ _) (by w_strict (k_asm)) (by w_strict (k_asm)) (by w_strict (k_asm)) (by w_strict (k_asm)) (by w_strict (k_asm)) rfl (by w_strict (exact Nat.le_of_ble_eq_true rfl)) (by w_strict (ktr_room)) (by w_strict (ktr_units)) ?_; intro _ _ _ _ _ N9 l9 hP9; obtain ⟨ea, _, eb⟩ := hP9; subst ea; subst eb; (try dsimp only [List.cons_append, List.nil_append] at N9); clear l9); (try (revert N9; intro _)))
  k_with "call ref" => (k_here; (with_reducible show wpAny _ _ (call (Value.ref 173) _) _ _ _); k_dflt (refine' Ct2.use (C_heard _ _ _ _ _ _) (by w_strict (k_asm)) (by w_strict (k_asm)) (by w_strict (k_asm)) (by w_strict (k_asm)) (by w_strict (k_asm)) rfl (by w_strict (trivial)) (by w_strict (ktr_room)) (by w_strict (ktr_units)) ?_; intro _ _ _ _ _ N9 l9 hP9; clear l9; obtain ⟨_, _, _, _, _, _, _, _, eb, ea, _, _, _⟩ := hP9; subst ea; subst eb; (try dsimp only [List.cons_append, List.nil_append] at N9)); (try (revert N9; intro _)))
  trivial
set_option maxRecDepth 100000 in
set_option maxHeartbeats 8000000 in
theorem seg7 {w : World} {mean : ExcName → Option Value} {mg mb : Str → Option Value} {h₀ : Heap} {L fa T F S : Addr} {cd : Value} {s : Shared} {E : Value → Shared → Prop} {u : Str → Option Value} {tv fv sv : List Value} {n : Nat → Int} {tt : Tok}
    (B : Below callerA h₀ [] h₀) (Ff : Fr h₀ L s.heap (kstB u [(Str.ofString "turns", .ref T), (Str.ofString "told", .str ⟨(toldL n).toArray⟩ tt), (Str.ofString "first", .ref F), (Str.ofString "second", .ref S)])) (X : (K w.params).In h₀) (N : News h₀ L s.heap [(S, PySem.W.listOf sv.toArray sv.length), (F, PySem.W.listOf fv.toArray fv.length), (T, PySem.W.listOf tv.toArray tv.length)]) (Tp : Top vw (looseW vw looseN) mean mg mb h₀) :
    wpAny (model PySem.Challenge.pw_wk0036_01 w) (callerA.deeper (lawEnv L fa cd)) (exec lst6 (lawEnv L fa cd)) (SegP h₀ L s (St7 n T F S [(S, PySem.W.listOf sv.toArray sv.length), (F, PySem.W.listOf fv.toArray fv.length), (T, PySem.W.listOf tv.toArray tv.length)])) E s := by
  delta lst6
  k_steps
  refine SC.replaceW ?a ?b ?c ?d ?e ?f ?_
  case a => first | omega | exact Nat.succ_ne_zero _
  case b => first | omega | exact Nat.succ_ne_zero _
  case c => first | omega | exact (Nat.succ_ne_self _).symm
  case d => decide
  case e => exact Nat.le_of_ble_eq_true rfl
  case f => decide
  intro t9 k9; rw [told_enc]
  k_steps
  rename_i X9 T9 W9 a9 b9 c9 cw9 cx9 i9 j9 k9 h' F' N'
  exact SegP.intro _ F' N' (fun p hp => hp) ⟨X9, T9, W9, a9, b9, c9, cw9, cx9, rfl, i9, j9, k9, by kst_all⟩
theorem linesW5_end : True := by
  k_with_none
  trivial
end Mine
end
section
open PySem PySem.W PyProof.Rows PySem.Calls PySem.Spec
namespace Mine
theorem heard_ne {prog : Program} {w : World} {A : Around} {E Q : Value → Shared → Prop} {s : Shared} {h₀ : Heap} {L : Addr} {news : Led} {X Y T2 Wd a b T W F S : Addr} {v1 v2 v3 u1 u2 u3 : List Value} {l1 l2 l3 : List Int} {c1 c2 c3 d1 d2 d3 cx cw dx dw : Nat} (N : News h₀ L s.heap news)
    (m1 : (X, tupO #[.ref T2, .ref Wd] cx) ∈ news) (m2 : (T2, PySem.W.listOf v1.toArray c1) ∈ news) (m3 : (Wd, PySem.W.listOf #[.ref a, .ref b] cw) ∈ news) (m4 : (a, PySem.W.listOf v2.toArray c2) ∈ news) (m5 : (b, PySem.W.listOf v3.toArray c3) ∈ news)
    (n1 : (Y, tupO #[.ref T, .ref W] dx) ∈ news) (n2 : (T, PySem.W.listOf u1.toArray d1) ∈ news) (n3 : (W, PySem.W.listOf #[.ref F, .ref S] dw) ∈ news) (n4 : (F, PySem.W.listOf u2.toArray d2) ∈ news) (n5 : (S, PySem.W.listOf u3.toArray d3) ∈ news)
    (i1 : IntsAre v1 l1) (i2 : IntsAre v2 l2) (i3 : IntsAre v3 l3) (j1 : IntsAre u1 l1) (j2 : IntsAre u2 l2) (j3 : IntsAre u3 l3) (hu : A.units + 64 < cLine) (h : Q (.bool false) s) : wpAny (model prog w) A (compareOp .NotEq (.ref X) (.ref Y)) Q E s := by
  have hs : PySem.SeqAt.shaped (.tuple [.list (l1.map PyData.int), .list [.list (l2.map PyData.int), .list (l3.map PyData.int)]]) = true := by
    have h1 := PyProof.Rows.depthAll_ints l1
    have h2 := PyProof.Rows.depthAll_ints l2
    have h3 := PyProof.Rows.depthAll_ints l3
    have g1 := canLayAll0_ints l1
    have g2 := canLayAll0_ints l2
    have g3 := canLayAll0_ints l3
    unfold PySem.SeqAt.shaped
    rw [Bool.and_eq_true]
    refine ⟨?_, decide_eq_true ?_⟩
    · simp only [PyData.canLay0, PyData.canLayAll0, g1, g2, g3, Bool.and_true]
    · simp only [PyData.depth, PyData.depthAll]
      omega
  refine ne_dataH (da := .tuple [.list (l1.map PyData.int), .list [.list (l2.map PyData.int), .list (l3.map PyData.int)]]) (db := .tuple [.list (l1.map PyData.int), .list [.list (l2.map PyData.int), .list (l3.map PyData.int)]])
    (reads_tuple_at (N.get m1) rfl rfl (.cons (reads_of_ints (isl N m2) i1) (.cons (reads_list_at (N.get m3) rfl rfl (.cons (reads_of_ints (isl N m4) i2) (.cons (reads_of_ints (isl N m5) i3) .nil))) .nil)))
    (reads_tuple_at (N.get n1) rfl rfl (.cons (reads_of_ints (isl N n2) j1) (.cons (reads_list_at (N.get n3) rfl rfl (.cons (reads_of_ints (isl N n4) j2) (.cons (reads_of_ints (isl N n5) j3) .nil))) .nil))) hs hs hu ?_
  have e : PyData.eqv (.tuple [.list (l1.map PyData.int), .list [.list (l2.map PyData.int), .list (l3.map PyData.int)]]) (.tuple [.list (l1.map PyData.int), .list [.list (l2.map PyData.int), .list (l3.map PyData.int)]]) = true := by
    simp only [PyData.eqv, PyData.eqvAll, ked_eqvAll, decide_true, Bool.and_true]
  rw [e]
  exact h
noncomputable def St8 (T F S X : Addr) (news : Led) (m' : Str → Option Value) (news' : Led) : Prop := news' = news ∧ ∀ p ∈ [(Str.ofString "turns", .ref T), (Str.ofString "first", .ref F), (Str.ofString "second", .ref S), (Str.ofString "heard", .ref X)], m' p.1 = some p.2
theorem linesW6_1 : True := by
  k_with "compareOp NotEq ref ref" => (k_here; k_dflt (refine heard_ne (by k_asm) (by k_mem) (by k_mem) (by k_mem) (by k_mem) (by k_mem) (by k_mem) (by k_mem) (by k_mem) (by k_mem) (by k_mem) (by with_reducible assumption) (by with_reducible assumption) (by with_reducible assumption) (by with_reducible assumption) (by with_reducible assumption) (by with_reducible assumption) (by ktr_units) ?_))
  trivial
set_option maxRecDepth 100000 in
set_option maxHeartbeats 8000000 in
theorem seg8 {w : World} {mean : ExcName → Option Value} {mg mb : Str → Option Value} {h₀ : Heap} {L fa T F S X T2 Wd a b : Addr} {cd : Value} {s : Shared} {E : Value → Shared → Prop} {u : Str → Option Value} {tv fv sv : List Value} {n : Nat → Int} {k : HS} {cw cx : Nat}
    (B : Below callerA h₀ [] h₀) (Ff : Fr h₀ L s.heap (kstB u [(Str.ofString "turns", .ref T), (Str.ofString "first", .ref F), (Str.ofString "second", .ref S), (Str.ofString "heard", .ref X)])) (Xi : (K w.params).In h₀) (N : News h₀ L s.heap ((X, tupO #[.ref T2, .ref Wd] cx) :: (T2, PySem.W.listOf k.tv.toArray k.ct) :: (Wd, PySem.W.listOf #[.ref a, .ref b] cw) :: (a, PySem.W.listOf k.w0.toArray k.c0) :: (b, PySem.W.listOf k.w1.toArray k.c1) :: [(S, PySem.W.listOf sv.toArray sv.length), (F, PySem.W.listOf fv.toArray fv.length), (T, PySem.W.listOf tv.toArray tv.length)])) (Tp : Top vw (looseW vw looseN) mean mg mb h₀)
    (i1 : IntsAre k.tv (turnL n)) (i2 : IntsAre k.w0 (firstL n)) (i3 : IntsAre k.w1 (secondL n)) (j1 : IntsAre tv (turnL n)) (j2 : IntsAre fv (firstL n)) (j3 : IntsAre sv (secondL n)) :
    wpAny (model PySem.Challenge.pw_wk0036_01 w) (callerA.deeper (lawEnv L fa cd)) (exec lst7 (lawEnv L fa cd)) (SegP h₀ L s (St8 T F S X ((X, tupO #[.ref T2, .ref Wd] cx) :: (T2, PySem.W.listOf k.tv.toArray k.ct) :: (Wd, PySem.W.listOf #[.ref a, .ref b] cw) :: (a, PySem.W.listOf k.w0.toArray k.c0) :: (b, PySem.W.listOf k.w1.toArray k.c1) :: [(S, PySem.W.listOf sv.toArray sv.length), (F, PySem.W.listOf fv.toArray fv.length), (T, PySem.W.listOf tv.toArray tv.length)]))) E s := by
  delta lst7
  k_steps
  rename Fr _ _ _ _ => eF
  rename News _ _ _ _ => eN
  exact SegP.intro _ eF eN (fun p hp => .tail _ (.tail _ hp)) ⟨rfl, by kst_all⟩
theorem linesW6_end : True := by
  k_with_none
  trivial
end Mine
end
section
open PySem PySem.W PyProof.Rows PySem.Calls PySem.Spec
namespace Mine
theorem vN_ok (n : Nat → Int) : ∀ p g, 0 ≤ vN n p g ∧ vN n p g ≤ 10000000 := vN_bd n
noncomputable def St9 (g : Int) (T F S X : Addr) (news : Led) (m' : Str → Option Value) (news' : Led) : Prop := news' = news ∧ ∃ tg, ∀ p ∈ [(Str.ofString "turns", .ref T), (Str.ofString "first", .ref F), (Str.ofString "second", .ref S), (Str.ofString "heard", .ref X), (Str.ofString "got", .int g tg)], m' p.1 = some p.2
theorem linesW7_1 : True := by
  k_with "call ref" => (k_here; (with_reducible show wpAny _ _ (call (Value.ref 178) _) _ _ _); refine Stop.go ?_)
  k_with "call ref" => (k_here; (with_reducible show wpAny _ _ (call (Value.ref 183) _) _ _ _); refine Stop.go ?_)
  trivial
set_option maxRecDepth 100000 in
set_option maxHeartbeats 8000000 in
theorem seg9 {w : World} {mean : ExcName → Option Value} {mg mb : Str → Option Value} {h₀ : Heap} {L fa T F S X T2 Wd a b : Addr} {cd : Value} {s : Shared} {E : Value → Shared → Prop} {u : Str → Option Value} {tv fv sv : List Value} {n : Nat → Int} {k : HS} {cw cx : Nat}
    (B : Below callerA h₀ [] h₀) (Ff : Fr h₀ L s.heap (kstB u [(Str.ofString "turns", .ref T), (Str.ofString "first", .ref F), (Str.ofString "second", .ref S), (Str.ofString "heard", .ref X)])) (Xi : (K w.params).In h₀) (N : News h₀ L s.heap ((X, tupO #[.ref T2, .ref Wd] cx) :: (T2, PySem.W.listOf k.tv.toArray k.ct) :: (Wd, PySem.W.listOf #[.ref a, .ref b] cw) :: (a, PySem.W.listOf k.w0.toArray k.c0) :: (b, PySem.W.listOf k.w1.toArray k.c1) :: [(S, PySem.W.listOf sv.toArray sv.length), (F, PySem.W.listOf fv.toArray fv.length), (T, PySem.W.listOf tv.toArray tv.length)])) (Tp : Top vw (looseW vw looseN) mean mg mb h₀)
    (i1 : IntsAre k.tv (turnL n)) (i2 : IntsAre k.w0 (firstL n)) (i3 : IntsAre k.w1 (secondL n)) :
    wpAny (model PySem.Challenge.pw_wk0036_01 w) (callerA.deeper (lawEnv L fa cd)) (exec lst8 (lawEnv L fa cd)) (SegP h₀ L s (St9 (endOf (vN n) (tsN n) 31).1 T F S X ((X, tupO #[.ref T2, .ref Wd] cx) :: (T2, PySem.W.listOf k.tv.toArray k.ct) :: (Wd, PySem.W.listOf #[.ref a, .ref b] cw) :: (a, PySem.W.listOf k.w0.toArray k.c0) :: (b, PySem.W.listOf k.w1.toArray k.c1) :: [(S, PySem.W.listOf sv.toArray sv.length), (F, PySem.W.listOf fv.toArray fv.length), (T, PySem.W.listOf tv.toArray tv.length)]))) E s := by
  delta lst8
  k_steps
  refine Stop.mk ?_
  rename Fr _ _ _ _ => eF
  rename News _ _ _ _ => eN
  refine Ct2.use (C_played w mean mg mb (vN n) (tsN n) ⟨T2, Wd, a, b, k.tv, k.w0, k.w1, k.ct, cw, k.c0, k.c1⟩) B eF Xi eN Tp rfl ⟨⟨by k_mem, by k_mem, by k_mem, by k_mem, i1, i2, i3, vN_ok n⟩, fairN n⟩ (by ktr_room) (by ktr_units) ?_
  intro r9 tl9 h9 tk9 F9 N9 l9 hP9
  obtain ⟨ea, tt9, eb⟩ := hP9
  subst ea
  subst eb
  dsimp only [List.cons_append, List.nil_append] at N9
  clear l9 eF eN
  k_steps
  rename Fr _ _ _ _ => eF
  rename News _ _ _ _ => eN
  exact SegP.intro _ eF eN (fun p hp => hp) ⟨rfl, _, by kst_all⟩
noncomputable def St10 (n : Nat → Int) (X : Addr) (g : Int) (tg : Tok) (news : Led) (m' : Str → Option Value) (news' : Led) : Prop := ∃ (M : Nat) (y : SW), M < 32 ∧ y.g0 = goodsOf M ∧ y.g1 = goodsOf (31 - M) ∧ news' = (y.X, PySem.W.listOf #[.ref y.p, .ref y.q] y.cx) :: (y.p, PySem.W.listOf y.pv.toArray y.cp) :: (y.q, PySem.W.listOf y.qv.toArray y.cq) :: news ∧
  IntsAre y.pv (nints y.g0) ∧ IntsAre y.qv (nints y.g1) ∧ (endOf (vN n) (tsN n) 31).1 = (flagN M : Int) ∧ 4681 - (endOf (vN n) (tsN n) 31).1 = (flagN (31 - M) : Int) ∧ Content (vN n) (tsN n) y.g0 y.g1 ∧ ∀ p ∈ [(Str.ofString "heard", .ref X), (Str.ofString "got", .int g tg), (Str.ofString "shares", .ref y.X)], m' p.1 = some p.2
set_option maxRecDepth 100000 in
set_option maxHeartbeats 8000000 in
theorem seg10 {w : World} {mean : ExcName → Option Value} {mg mb : Str → Option Value} {h₀ : Heap} {L fa T F S X T2 Wd a b : Addr} {cd : Value} {s : Shared} {E : Value → Shared → Prop} {u : Str → Option Value} {tv fv sv : List Value} {n : Nat → Int} {k : HS} {cw cx : Nat} {g : Int} {tg : Tok}
    (B : Below callerA h₀ [] h₀) (Ff : Fr h₀ L s.heap (kstB u [(Str.ofString "turns", .ref T), (Str.ofString "first", .ref F), (Str.ofString "second", .ref S), (Str.ofString "heard", .ref X), (Str.ofString "got", .int g tg)])) (Xi : (K w.params).In h₀) (N : News h₀ L s.heap ((X, tupO #[.ref T2, .ref Wd] cx) :: (T2, PySem.W.listOf k.tv.toArray k.ct) :: (Wd, PySem.W.listOf #[.ref a, .ref b] cw) :: (a, PySem.W.listOf k.w0.toArray k.c0) :: (b, PySem.W.listOf k.w1.toArray k.c1) :: [(S, PySem.W.listOf sv.toArray sv.length), (F, PySem.W.listOf fv.toArray fv.length), (T, PySem.W.listOf tv.toArray tv.length)])) (Tp : Top vw (looseW vw looseN) mean mg mb h₀)
    (j1 : IntsAre tv (turnL n)) (j2 : IntsAre fv (firstL n)) (j3 : IntsAre sv (secondL n)) :
    wpAny (model PySem.Challenge.pw_wk0036_01 w) (callerA.deeper (lawEnv L fa cd)) (exec lst9 (lawEnv L fa cd)) (SegP h₀ L s (St10 n X g tg ([(X, tupO #[.ref T2, .ref Wd] cx), (T2, PySem.W.listOf k.tv.toArray k.ct), (Wd, PySem.W.listOf #[.ref a, .ref b] cw), (a, PySem.W.listOf k.w0.toArray k.c0), (b, PySem.W.listOf k.w1.toArray k.c1)]))) E s := by
  delta lst9
  k_steps
  refine Stop.mk ?_
  rename Fr _ _ _ _ => eF
  rename News _ _ _ _ => eN
  rename_i W9 hW lW
  refine Ct3.use (C_crossed w mean mg mb (vN n) (tsN n) ⟨T, W9, F, S, tv, fv, sv, tv.length, 0, fv.length, sv.length⟩) B eF Xi eN Tp rfl ⟨⟨by k_mem, by k_mem, by k_mem, by k_mem, j1, j2, j3, vN_ok n⟩, fairN n, fun p g hg => by rw [vN_mod n p hg]; omega⟩ (by ktr_room) (by ktr_units) ?_
  intro r9 tl9 h9 tk9 F9 N9 hP9
  obtain ⟨Y, p, q, cy, cp, cq, pv, qv, n0, n1, eb, ea, q1, q2, o1, o2, r1, r2⟩ := hP9
  subst ea
  subst eb
  dsimp only [List.cons_append, List.nil_append] at N9
  obtain ⟨M, hM, e0, e1, f0, f1, hC⟩ := shares_law (v := vN n) (ts := tsN n) rfl (fairN n).two (fun p g => (vN_bd n p g).1) (crossN_l5 (v := vN n) (ts := tsN n) rfl).2.1 o1 o2 r1 r2
  subst e0
  subst e1
  clear eF eN
  k_steps
  rename Fr _ _ _ _ => eF
  rename News _ _ _ _ => eN
  exact SegP.intro ((Y, PySem.W.listOf #[.ref p, .ref q] cy) :: (p, PySem.W.listOf pv.toArray cp) :: (q, PySem.W.listOf qv.toArray cq) :: [(X, tupO #[.ref T2, .ref Wd] cx), (T2, PySem.W.listOf k.tv.toArray k.ct), (Wd, PySem.W.listOf #[.ref a, .ref b] cw), (a, PySem.W.listOf k.w0.toArray k.c0), (b, PySem.W.listOf k.w1.toArray k.c1)]) eF eN (by
    simp only [List.forall_mem_cons]
    exact ⟨by k_mem, by k_mem, by k_mem, by k_mem, by k_mem, by k_mem, by k_mem, by k_mem, fun _ h => nomatch h⟩) ⟨M, ⟨Y, p, q, pv, qv, cy, cp, cq, goodsOf M, goodsOf (31 - M)⟩, hM, rfl, rfl, rfl, q1, q2, f0, f1, hC, by kst_all⟩
theorem linesW7_end : True := by
  k_with_none
  trivial
end Mine
end
section
open PySem PySem.W PyProof.Rows PySem.Calls PySem.Spec
namespace Mine
section
variable {prog : Program} {w : World} {A : Around} {E : Value → Shared → Prop} {s : Shared} {Q : Value → Shared → Prop}
theorem sub_flag {M : Nat} {t u : Tok} (h : (4681 : Int) - (flagN M : Int) = (flagN (31 - M) : Int)) (hq : Q (.int (flagN (31 - M) : Int) s.toks) { s with toks := s.toks + 1 }) : wpAny (model prog w) A (binaryOp .Sub (.int 4681 t) (.int (flagN M : Int) u)) Q E s := by
  refine PyProof.Rows.sub_int ?_
  rw [h]
  exact hq
theorem ne_same {x : Str} {t u : Tok} (h : Q (.bool false) s) : wpAny (model prog w) A (compareOp .NotEq (.str x t) (.str x u)) Q E s := by
  refine PyProof.Rows.ne_str ?_
  have e : (x != x) = false := bne_self_eq_false' _
  first | (rw [e]; exact h) | (simp only [beq_self_eq_true, Bool.not_true, bne_self_eq_false']; exact h)
end
theorem good5 {M : Nat} (hM : M < 32) : (∀ x ∈ goodsOf M, x < 5) ∧ (goodsOf M).length ≤ 5 := by
  have h : ∀ M, M < 32 → (∀ x ∈ goodsOf M, x < 5) ∧ (goodsOf M).length ≤ 5 := by decide +kernel
  exact h M hM
noncomputable def St11 (X Y : Addr) (news : Led) (m' : Str → Option Value) (news' : Led) : Prop := news' = news ∧ ∀ p ∈ [(Str.ofString "heard", .ref X), (Str.ofString "shares", .ref Y)], m' p.1 = some p.2
theorem linesW8_1 : True := by
  k_with "call ref" => (k_here; (with_reducible show wpAny _ _ (call (Value.ref 22) _) _ _ _); k_dflt (refine' Ct.use (C_pretty _ _ _ _ _ _) (by w_strict (k_asm)) (by w_strict (k_asm)) (by w_strict (k_asm)) (by w_strict (k_asm)) (by w_strict (k_asm)) rfl (by w_strict (first | assumption | omega)) (by w_strict (ktr_room)) (by w_strict (ktr_units)) ?_; intro _ _ _ _ _ N9 l9 hP9; obtain ⟨_, eb⟩ := hP9; subst eb; (replace N9 := news_sub N9 (fun p hp => List.mem_append.mpr (.inr hp))); clear l9))
  k_with "call ref" => (k_here; (with_reducible show wpAny _ _ (call (Value.ref 188) _) _ _ _); k_dflt (refine' Ct3.use (C_worded _ _ _ _ _ _ _ _) (by w_strict (k_asm)) (by w_strict (k_asm)) (by w_strict (k_asm)) (by w_strict (k_asm)) (by w_strict (k_asm)) rfl (by w_strict (exact ⟨by k_mem, by with_reducible assumption, by assumption, by assumption⟩)) (by w_strict (ktr_room)) (by w_strict (ktr_units)) ?_; intro _ _ _ _ _ N9 hP9; obtain ⟨ea, _, eb⟩ := hP9; subst ea; subst eb; (try dsimp only [List.cons_append, List.nil_append] at N9)); (try (revert N9; intro _)))
  k_with "call ref" => (k_here; (with_reducible show wpAny _ _ (call (Value.ref 200) _) _ _ _); refine Stop.go ?_)
  k_with "subscriptTail" => (k_here; (with_reducible show wpAny _ _ (subscriptTail _ _ (Value.ref _) (Value.int _ _)) _ _ _); k_dflt (refine' refs_item (vs := [_, _]) (by w_strict (k_asm)) (by w_strict (k_mem)) (by w_strict (decide)) (by w_strict (decide)) (by w_strict (rfl)) ?_; k_whole))
  k_with "compareOp NotEq str str" => (k_here; refine ne_same ?_)
  k_with "binaryOp Sub int int" => (k_here; refine sub_flag (by assumption) ?_)
  trivial
set_option maxRecDepth 100000 in
set_option maxHeartbeats 8000000 in
theorem seg11 {w : World} {mean : ExcName → Option Value} {mg mb : Str → Option Value} {h₀ : Heap} {L fa X T2 Wd a b : Addr} {cd : Value} {s : Shared} {E : Value → Shared → Prop} {u : Str → Option Value} {n : Nat → Int} {k : HS} {cw cx : Nat} {y : SW} {M : Nat} {tg : Tok}
    (B : Below callerA h₀ [] h₀) (Ff : Fr h₀ L s.heap (kstB u [(Str.ofString "heard", .ref X), (Str.ofString "got", .int (flagN M : Int) tg), (Str.ofString "shares", .ref y.X)])) (Xi : (K w.params).In h₀) (N : News h₀ L s.heap ((y.X, PySem.W.listOf #[.ref y.p, .ref y.q] y.cx) :: (y.p, PySem.W.listOf y.pv.toArray y.cp) :: (y.q, PySem.W.listOf y.qv.toArray y.cq) :: [(X, tupO #[.ref T2, .ref Wd] cx), (T2, PySem.W.listOf k.tv.toArray k.ct), (Wd, PySem.W.listOf #[.ref a, .ref b] cw), (a, PySem.W.listOf k.w0.toArray k.c0), (b, PySem.W.listOf k.w1.toArray k.c1)])) (Tp : Top vw (looseW vw looseN) mean mg mb h₀)
    (hM : M < 32) (q1 : IntsAre y.pv (nints (goodsOf M))) (q2 : IntsAre y.qv (nints (goodsOf (31 - M)))) (hf : (4681 : Int) - (flagN M : Int) = (flagN (31 - M) : Int)) :
    wpAny (model PySem.Challenge.pw_wk0036_01 w) (callerA.deeper (lawEnv L fa cd)) (exec lst10 (lawEnv L fa cd)) (SegP h₀ L s (St11 X y.X ((y.X, PySem.W.listOf #[.ref y.p, .ref y.q] y.cx) :: (y.p, PySem.W.listOf y.pv.toArray y.cp) :: (y.q, PySem.W.listOf y.qv.toArray y.cq) :: [(X, tupO #[.ref T2, .ref Wd] cx), (T2, PySem.W.listOf k.tv.toArray k.ct), (Wd, PySem.W.listOf #[.ref a, .ref b] cw), (a, PySem.W.listOf k.w0.toArray k.c0), (b, PySem.W.listOf k.w1.toArray k.c1)]))) E s := by
  obtain ⟨g5, gl⟩ := good5 hM
  have hM' : 31 - M < 32 := by omega
  obtain ⟨g5', gl'⟩ := good5 hM'
  delta lst10
  k_steps
  rename Fr _ _ _ _ => eF
  rename News _ _ _ _ => eN
  exact SegP.intro _ eF eN (fun p hp => hp) ⟨rfl, by kst_all⟩
set_option maxRecDepth 100000 in
set_option maxHeartbeats 8000000 in
theorem seg12 {w : World} {mean : ExcName → Option Value} {mg mb : Str → Option Value} {h₀ : Heap} {L fa X T2 Wd a b : Addr} {cd : Value} {s : Shared} {E : Value → Shared → Prop} {u : Str → Option Value} {n : Nat → Int} {k : HS} {cw cx : Nat} {y : SW} {Q : Flow → Shared → Prop}
    (B : Below callerA h₀ [] h₀) (Ff : Fr h₀ L s.heap (kstB u [(Str.ofString "heard", .ref X), (Str.ofString "shares", .ref y.X)])) (Xi : (K w.params).In h₀) (N : News h₀ L s.heap ((y.X, PySem.W.listOf #[.ref y.p, .ref y.q] y.cx) :: (y.p, PySem.W.listOf y.pv.toArray y.cp) :: (y.q, PySem.W.listOf y.qv.toArray y.cq) :: [(X, tupO #[.ref T2, .ref Wd] cx), (T2, PySem.W.listOf k.tv.toArray k.ct), (Wd, PySem.W.listOf #[.ref a, .ref b] cw), (a, PySem.W.listOf k.w0.toArray k.c0), (b, PySem.W.listOf k.w1.toArray k.c1)])) (Tp : Top vw (looseW vw looseN) mean mg mb h₀)
    (i1 : IntsAre k.tv (turnL n)) (i2 : IntsAre k.w0 (firstL n)) (i3 : IntsAre k.w1 (secondL n)) (q1 : IntsAre y.pv (nints y.g0)) (q2 : IntsAre y.qv (nints y.g1)) (hg0 : (∀ g ∈ y.g0, g < 5) ∧ y.g0.length ≤ 5) (hg1 : (∀ g ∈ y.g1, g < 5) ∧ y.g1.length ≤ 5) (hC : Content (vN n) (tsN n) y.g0 y.g1)
    (hQ : ∀ h' tk' m', Fr h₀ L h' m' → Q (.ret (.bool true)) { s with heap := h', toks := tk' }) :
    wpAny (model PySem.Challenge.pw_wk0036_01 w) (callerA.deeper (lawEnv L fa cd)) (execs [lst11] (lawEnv L fa cd)) Q E s := by
  delta lst11
  k_steps
  refine Stop.mk ?_
  rename Fr _ _ _ _ => eF
  rename News _ _ _ _ => eN
  refine Ct3.use (C_content w mean mg mb (vN n) (tsN n) ⟨T2, Wd, a, b, k.tv, k.w0, k.w1, k.ct, cw, k.c0, k.c1⟩ y) B eF Xi eN Tp rfl ⟨⟨by k_mem, by k_mem, by k_mem, by k_mem, i1, i2, i3, vN_bd n⟩, rfl, ⟨by k_mem, by k_mem, by k_mem, q1, q2, hg0.1, hg1.1, hg0.2, hg1.2⟩, hC, ahead_bd rfl (fairN n).two⟩ (by ktr_room) (by ktr_units) ?_
  intro r9 tl9 h9 tk9 F9 N9 hP9
  obtain ⟨ea, eb⟩ := hP9
  subst ea
  subst eb
  clear eF eN
  k_steps
  exact hQ _ _ _ F9
theorem linesW8_end : True := by
  k_with_none
  trivial
end Mine
end
section
open PySem PySem.W PyProof.Rows PySem.Calls PySem.Spec
namespace Mine
theorem one_fact {P : Str × Value → Prop} {a : Str × Value} (h : P a) : ∀ p ∈ [a], P p := fun p hp => by cases List.mem_singleton.mp hp; exact h
set_option maxRecDepth 100000 in
set_option maxHeartbeats 8000000 in
theorem law_body {w : World} {mean : ExcName → Option Value} {mg mb : Str → Option Value} {h₀ : Heap} {L fa l : Addr} {cd : Value} {s : Shared} {E : Value → Shared → Prop} {Q : Flow → Shared → Prop} {u : Str → Option Value} {vs : List Value} {ns : List Int} {oG oD : Obj}
    (B : Below callerA h₀ [] h₀) (F : Fr h₀ L s.heap (kstB u [(Str.ofString "script", .ref l)])) (X : (K w.params).In h₀) (N : News h₀ L s.heap [(L + 1 + 1, oG), (L + 1, oD)]) (T : Top vw (looseW vw looseN) mean mg mb h₀)
    (hl : h₀.IsList l vs.toArray) (hi : IntsAre vs ns) (hn : ns.length < 2 ^ 20) (dG : oG.data = .cell none) (dD : oD.data = .cell none)
    (hQ : ∀ h' tk' m', Fr h₀ L h' m' → Q (.ret (.bool true)) { s with heap := h', toks := tk' }) :
    wpAny (model PySem.Challenge.pw_wk0036_01 w) (callerA.deeper (lawEnv L fa cd)) (execs bd25 (lawEnv L fa cd)) Q E s := by
  rw [bd25_eq]
  refine seg_cons (seg1 B F X N T hl hi hn dG dD) ?_
  rintro h1 k1 m1 _ F1 N1 ⟨n, D, dv, c, oG1, oD1, rfl, dG1, dD1, hd, hb, nD⟩
  refine seg_cons (seg2 B F1 X N1 T hd dD1) ?_
  rintro h2 k2 m2 _ F2 N2 ⟨T2, tv, rfl, hT, e2, nT⟩
  refine seg_cons (seg3 B (fr_pick _ F2 (one_fact e2)) X N2 T hd dG1 dD1 nD nT) ?_
  rintro h3 k3 m3 _ F3 N3 ⟨G, gs, tl, oG3, rfl, hg, dG3, e3⟩
  refine seg_cons (seg4 B (fr_pick _ F3 (one_fact e3)) X N3 T hd hg dG3 dD1) ?_
  rintro h4 k4 m4 _ F4 N4 ⟨rfl, ⟨tt, e4⟩, e4'⟩
  refine seg_cons (seg5 B (fr_pick _ F4 (List.forall_mem_cons.mpr ⟨e4', one_fact e4⟩)) X N4 T hg dG3) ?_
  rintro h5 k5 m5 _ F5 N5 ⟨Fi, fv, rfl, hf, e5⟩
  refine seg_cons (seg6 B (fr_pick _ F5 e5) X N5 T hg dG3) ?_
  rintro h6 k6 m6 _ F6 N6 ⟨Se, sv, rfl, hs, e6⟩
  refine seg_cons (seg7 B (fr_pick _ F6 e6) X N6 T) ?_
  rintro h7 k7 m7 _ F7 N7 ⟨Xh, Th, Wh, ah, bh, kh, cw, cx, rfl, i1, i2, i3, e7⟩
  refine seg_cons (seg8 B (fr_pick _ F7 e7) X N7 T i1 i2 i3 hT hf hs) ?_
  rintro h8 k8 m8 _ F8 N8 ⟨rfl, e8⟩
  refine seg_cons (seg9 B (fr_pick _ F8 e8) X N8 T i1 i2 i3) ?_
  rintro h9 k9 m9 _ F9 N9 ⟨rfl, tg, e9⟩
  refine seg_cons (seg10 B (fr_pick _ F9 e9) X N9 T hT hf hs) ?_
  rintro h10 k10 m10 _ F10 N10 ⟨M, y, hM, eg0, eg1, rfl, q1, q2, f0, f1, hC, e10⟩
  rw [f0] at e10 f1
  refine seg_cons (seg11 (n := n) B (fr_pick _ F10 e10) X N10 T hM (by rw [← eg0]; exact q1) (by rw [← eg1]; exact q2) f1) ?_
  rintro h11 k11 m11 _ F11 N11 ⟨rfl, e11⟩
  refine seg12 B (fr_pick _ F11 e11) X N11 T i1 i2 i3 q1 q2 (by rw [eg0]; exact good5 hM) (by rw [eg1]; exact good5 (by omega)) hC ?_
  exact fun h' tk' m' F' => hQ h' tk' m' F'
end Mine
end
section
open PySem PySem.W PyProof.Rows PySem.Calls PySem.Spec
namespace Mine
local macro_rules | `(tactic| k_qdec) => `(tactic| decide +kernel)
set_option maxRecDepth 100000 in
set_option maxHeartbeats 8000000 in
theorem law_w : PySem.Challenge.rw_wk0036_01.Holds := by
  refine hd2 ?_
  w_strict (k_go0; (all_goals try k_fold); (rename Below _ _ _ _ => zB); (rename Fr _ _ _ _ => zF); (rename News _ _ _ _ => zN); (rename Top _ _ _ _ _ _ => zT); (rename Heap.IsList _ _ _ => zL); (rename IntsAre _ _ => zI); (rename Frag.In _ _ => zX); (rename (Obj.data _ = Data.cell (bindC _ _ _ (Str.ofString "goods"))) => zg); (rename (Obj.data _ = Data.cell (bindC _ _ _ (Str.ofString "drawn"))) => zd); (rename (¬ ((63 : Nat) : Int) < _) => zc); refine law_body zB (fr_pick _ zF (one_fact ?k1)) zX zN zT zL zI ?k2 zg zd ?k3; (case k1 => rfl); (case k2 => omega); (case k3 => (intro h' tk' m' F'; k_steps)))
end Mine
end
theorem PySem.Challenge.cw_wk0036_01_holds : PySem.Challenge.rw_wk0036_01.Holds := by
  exact Mine.law_w
