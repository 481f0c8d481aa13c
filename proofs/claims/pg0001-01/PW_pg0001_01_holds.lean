import PyProof.Rows.All
import Wide.All
import OpenK.AllK
import Wide.FinOn
import PySem.Challenge.RW_pg0001_01
set_option Elab.async false

namespace Mine
set_option maxRecDepth 100000
set_option maxHeartbeats 8000000
open PySem PySem.W PyProof.Rows
open_top hd for PySem.Challenge.rw_pg0001_01
end Mine

namespace Mine
theorem markPlainA : True := by w_top off; trivial
open PySem

/-- what a row and a model tell of each other: ok i j, the row's stretch i to j stands in the model -/
structure Okay (n : Nat) (ok : Nat → Nat → Bool) : Prop where
  mono : ∀ i j i' j', ok i j = true → i ≤ i' → i' ≤ j' → j' ≤ j → j ≤ n → ok i' j' = true
  one : ∀ i, i < n → ok i (i + 1) = true

/-- b is the end of the longest stretch at i -/
def IsFar (n : Nat) (ok : Nat → Nat → Bool) (i b : Nat) : Prop :=
  i ≤ b ∧ b ≤ n ∧ (∀ k, i < k → k ≤ b → ok i k = true) ∧ (b < n → ok i (b + 1) = false)

/-- the greedy road from 0 to a, piece by piece -/
inductive Road (n : Nat) (ok : Nat → Nat → Bool) : Nat → List (Nat × Nat) → Prop where
  | nil : Road n ok 0 []
  | snoc {a b : Nat} {ps : List (Nat × Nat)} : Road n ok a ps → a < n → IsFar n ok a b → Road n ok b (ps ++ [(a, b)])

/-- a is the last end on the road that lies by c -/
def Last (n : Nat) (ok : Nat → Nat → Bool) (c a : Nat) (ps : List (Nat × Nat)) : Prop :=
  Road n ok a ps ∧ a ≤ c ∧ (a = n ∨ ∀ b, IsFar n ok a b → c < b)

def IsFew (ok : Nat → Nat → Bool) (f : Nat → Int) (n : Nat) : Prop :=
  f 0 = 0 ∧ ∀ p, 1 ≤ p → p ≤ n → ∃ k, k < p ∧ ok k p = true ∧ f p = 1 + f k ∧ ∀ k', k' < p → ok k' p = true → f k ≤ f k'

section
variable {n : Nat} {ok : Nat → Nat → Bool} (H : Okay n ok)
include H

theorem IsFar.uniq {i b b' : Nat} (h : IsFar n ok i b) (h' : IsFar n ok i b') : b = b' := by
  obtain ⟨h1, h2, h3, h4⟩ := h
  obtain ⟨g1, g2, g3, g4⟩ := h'
  rcases Nat.lt_trichotomy b b' with q | q | q
  · have := h4 (by omega); rw [g3 (b + 1) (by omega) (by omega)] at this; cases this
  · exact q
  · have := g4 (by omega); rw [h3 (b' + 1) (by omega) (by omega)] at this; cases this

theorem IsFar.lt {i b : Nat} (h : IsFar n ok i b) (hi : i < n) : i < b := by
  obtain ⟨h1, h2, h3, h4⟩ := h
  rcases Nat.lt_or_ge i b with q | q
  · exact q
  · have e : b = i := by omega
    subst e
    have := h4 hi; rw [H.one _ hi] at this; cases this

theorem isFar_ex {i : Nat} (hi : i ≤ n) : ∃ b, IsFar n ok i b := by
  have key : ∀ f b, i ≤ b → b ≤ n → n - b ≤ f → (∀ k, i < k → k ≤ b → ok i k = true) → ∃ b, IsFar n ok i b := by
    intro f
    induction f with
    | zero => intro b h1 h2 h3 h4; exact ⟨b, h1, h2, h4, fun q => by omega⟩
    | succ f ih =>
      intro b h1 h2 h3 h4
      by_cases q : b < n
      · cases e : ok i (b + 1) with
        | false => exact ⟨b, h1, h2, h4, fun _ => e⟩
        | true =>
          refine ih (b + 1) (by omega) (by omega) (by omega) fun k hk hk' => ?_
          by_cases z : k = b + 1
          · rw [z]; exact e
          · exact h4 k hk (by omega)
      · exact ⟨b, h1, h2, h4, fun z => absurd z q⟩
  exact key n i (Nat.le_refl _) hi (by omega) (fun k h1 h2 => by omega)

theorem Road.le {a : Nat} {ps : List (Nat × Nat)} (h : Road n ok a ps) : a ≤ n := by
  cases h with
  | nil => exact Nat.zero_le _
  | snoc _ _ f => exact f.2.1

theorem Road.len_pos {a : Nat} {ps : List (Nat × Nat)} (h : Road n ok a ps) (ha : 0 < a) : 0 < ps.length := by
  cases h with
  | nil => omega
  | snoc _ _ f => simp

/-- two roads: the one that is shorter in pieces ends ahead; equal numbers are equal roads -/
theorem Road.comp {a : Nat} {ps : List (Nat × Nat)} (h : Road n ok a ps) : ∀ {a' : Nat} {ps' : List (Nat × Nat)}, Road n ok a' ps' →
    (ps.length = ps'.length → a = a' ∧ ps = ps') ∧ (ps.length < ps'.length → a < a' ∧ ∀ b, IsFar n ok a b → b ≤ a') := by
  induction h with
  | nil =>
    intro a' ps' h'
    refine ⟨fun e => ?_, fun e => ?_⟩
    · cases h' with
      | nil => exact ⟨rfl, rfl⟩
      | snoc r _ f => simp at e
    · -- 0 against a road of at least one piece
      have : ∀ {a' ps'}, Road n ok a' ps' → 0 < ps'.length → 0 < a' ∧ ∀ b, IsFar n ok 0 b → b ≤ a' := by
        intro a' ps' h'
        induction h' with
        | nil => intro e; simp at e
        | snoc r hlt f ih =>
          rename_i a b ps
          intro _
          have l := f.lt H hlt
          by_cases z : 0 < ps.length
          · obtain ⟨p1, p2⟩ := ih z
            exact ⟨by omega, fun b' fb' => by have := p2 b' fb'; omega⟩
          · cases r with
            | nil => exact ⟨l, fun b' fb' => by rw [fb'.uniq H f]; exact Nat.le_refl _⟩
            | snoc _ _ _ => simp at z
      exact this h' (by simpa using e)
  | snoc r hlt f ih =>
    rename_i a b ps
    intro a' ps' h'
    have lb := f.lt H hlt
    induction h' with
    | nil => exact ⟨fun e => by simp at e, fun e => by simp at e⟩
    | snoc r' hlt' f' ih' =>
      rename_i a₂ b₂ ps₂
      have lb' := f'.lt H hlt'
      refine ⟨fun e => ?_, fun e => ?_⟩
      · obtain ⟨e1, e2⟩ := (ih r').1 (by simpa using e)
        subst e1 e2
        have := f.uniq H f'
        subst this
        exact ⟨rfl, rfl⟩
      · simp only [List.length_append, List.length_cons, List.length_nil] at e ih'
        by_cases z : ps.length + 1 < ps₂.length
        · obtain ⟨p1, p2⟩ := ih'.2 (by simpa using z)
          exact ⟨by omega, fun b' fb' => by have := p2 b' fb'; omega⟩
        · obtain ⟨e1, e2⟩ := ih'.1 (by simp; omega)
          subst e1
          exact ⟨lb', fun b' fb' => by rw [fb'.uniq H f']; exact Nat.le_refl _⟩

theorem Road.uniq {a : Nat} {ps ps' : List (Nat × Nat)} (h : Road n ok a ps) (h' : Road n ok a ps') : ps = ps' := by
  rcases Nat.lt_trichotomy ps.length ps'.length with q | q | q
  · have := ((h.comp H h').2 q).1; omega
  · exact ((h.comp H h').1 q).2
  · have := ((h'.comp H h).2 q).1; omega

theorem Road.next {a a' b : Nat} {ps ps' : List (Nat × Nat)} (h : Road n ok a ps) (h' : Road n ok a' ps') (hl : a < a') (f : IsFar n ok a b) : b ≤ a' := by
  rcases Nat.lt_trichotomy ps.length ps'.length with q | q | q
  · exact ((h.comp H h').2 q).2 b f
  · have := ((h.comp H h').1 q).1; omega
  · have := ((h'.comp H h).2 q).1; omega

/-- a place on the road is its own last end -/
theorem Last.self {a i : Nat} {ps ps' : List (Nat × Nat)} (h : Last n ok i a ps) (r : Road n ok i ps') : a = i ∧ ps = ps' := by
  obtain ⟨h1, h2, h3⟩ := h
  have e : a = i := by
    rcases Nat.lt_or_ge a i with q | q
    · have hi := r.le H
      obtain ⟨b, fb⟩ := isFar_ex H (Nat.le_trans h2 hi)
      have l1 := h1.next H r q fb
      rcases h3 with h3 | h3
      · omega
      · have := h3 b fb; omega
    · omega
  subst e
  exact ⟨rfl, h1.uniq H r⟩

/-- on the road's way to c: every end but the last lies ahead, and the road that Last names is longest -/
theorem few_is {f : Nat → Int} (hf : IsFew ok f n) : ∀ c, c ≤ n → ∀ a ps, Last n ok c a ps → f c = (ps.length : Int) + (if a < c then 1 else 0) := by
  intro c
  induction c using Nat.strongRecOn with
  | ind c ih =>
    intro hc a ps hl
    by_cases hc0 : c = 0
    · subst hc0
      have ha : a = 0 := by have := hl.2.1; omega
      subst ha
      have := hl.1.uniq H .nil
      subst this
      simp [hf.1]
    · obtain ⟨k, hk, hok, hfk, hmin⟩ := hf.2 c (by omega) hc
      -- the road's last place ahead of c
      have hpred : ∃ a' ps', Road n ok a' ps' ∧ a' < c ∧ (∃ b, IsFar n ok a' b ∧ c ≤ b) ∧ ((ps.length : Int) + (if a < c then 1 else 0)) = (ps'.length : Int) + 1 := by
        by_cases z : a < c
        · obtain ⟨b, fb⟩ := isFar_ex H (i := a) (by omega)
          refine ⟨a, ps, hl.1, z, ⟨b, fb, ?_⟩, by rw [if_pos z]⟩
          rcases hl.2.2 with q | q
          · omega
          · exact Nat.le_of_lt (q b fb)
        · have ha : a = c := by have := hl.2.1; omega
          subst ha
          cases hl.1 with
          | nil => omega
          | snoc r hlt f' =>
            rename_i a' ps'
            exact ⟨a', ps', r, f'.lt H hlt, ⟨_, f', Nat.le_refl _⟩, by simp⟩
      obtain ⟨a', ps', r', hlt, ⟨b', fb', hb'⟩, hcount⟩ := hpred
      rw [hcount, hfk]
      -- the value at a'
      have hself : Last n ok a' a' ps' := ⟨r', Nat.le_refl _, .inr fun b fb => by rw [fb.uniq H fb']; omega⟩
      have ha' := ih a' hlt (by omega) a' ps' hself
      rw [if_neg (Nat.lt_irrefl _)] at ha'
      have hoka : ok a' c = true := fb'.2.2.1 c hlt hb'
      have h1 := hmin a' hlt hoka
      -- the value at k is no less
      have h2 : (ps'.length : Int) ≤ f k := by
        -- the last end by k
        obtain ⟨x, qs, hx⟩ : ∃ x qs, Last n ok k x qs := by
          have key : ∀ m, m ≤ n → ∃ x qs, Last n ok m x qs := by
            intro m
            induction m with
            | zero =>
              intro _
              refine ⟨0, [], .nil, Nat.le_refl _, ?_⟩
              by_cases z : n = 0
              · exact .inl z.symm
              · exact .inr fun b fb => fb.lt H (by omega)
            | succ m ihm =>
              intro hm
              obtain ⟨x, qs, hx1, hx2, hx3⟩ := ihm (by omega)
              by_cases z : x = n
              · exact ⟨x, qs, hx1, by omega, .inl z⟩
              · obtain ⟨b, fb⟩ := isFar_ex H (i := x) (hx1.le H)
                have hxl : x < n := by have := hx1.le H; omega
                have hmb : m < b := by
                  rcases hx3 with q | q
                  · exact absurd q z
                  · exact q b fb
                by_cases y : b = m + 1
                · refine ⟨b, qs ++ [(x, b)], .snoc hx1 hxl fb, by omega, ?_⟩
                  by_cases y2 : b = n
                  · exact .inl y2
                  · refine .inr fun b2 fb2 => ?_
                    have := fb2.lt H (by have := fb.2.1; omega)
                    omega
                · exact ⟨x, qs, hx1, by omega, .inr fun b2 fb2 => by rw [fb2.uniq H fb]; omega⟩
          exact key k (by omega)
        have hk' := ih k hk (by omega) x qs hx
        rw [hk']
        -- were it less, a longer stretch would stand at the road's place ahead of a'
        refine Classical.byContradiction fun hlt2 => ?_
        have hlt3 : (qs.length : Int) + (if x < k then 1 else 0) < ps'.length := by omega
        -- the road with qs.length + [x<k] pieces
        obtain ⟨y, rs, ry, hky, hrs⟩ : ∃ y rs, Road n ok y rs ∧ k ≤ y ∧ (rs.length : Int) = (qs.length : Int) + (if x < k then 1 else 0) := by
          by_cases z : x < k
          · obtain ⟨b, fb⟩ := isFar_ex H (i := x) (hx.1.le H)
            refine ⟨b, qs ++ [(x, b)], .snoc hx.1 (by omega) fb, ?_, by rw [if_pos z]; simp⟩
            rcases hx.2.2 with q | q
            · omega
            · exact Nat.le_of_lt (q b fb)
          · exact ⟨x, qs, hx.1, by omega, by rw [if_neg z]; simp⟩
        have hlen : rs.length < ps'.length := by omega
        obtain ⟨p1, p2⟩ := (ry.comp H r').2 hlen
        obtain ⟨b, fb⟩ := isFar_ex H (i := y) (ry.le H)
        have hb := p2 b fb
        -- ok y c, by monotony
        have hoky : ∀ j, y < j → j ≤ c → ok y j = true := fun j h1 h2 => H.mono k c y j hok hky (by omega) h2 hc
        have : c ≤ b := by
          rcases Nat.lt_or_ge b c with q | q
          · have := fb.2.2.2 (by omega); rw [hoky (b + 1) (by have := fb.1; omega) (by omega)] at this; cases this
          · exact q
        omega
      have h3 : f k ≤ f a' := h1
      rw [ha'] at h3
      omega
end
end Mine

namespace Mine
theorem markPlainB : True := by w_top off; trivial
open PySem PySem.Builtin.Str

abbrev Ls (x : Str) : List Nat := x.cps.toList

theorem str_ext {x y : Str} (h : Ls x = Ls y) : x = y := by
  cases x; cases y; congr 1; exact Array.ext' h

theorem slice_toList (x : Str) (i j : Nat) : Ls (Txt.slice x (some (i : Int)) (some (j : Int))) = ((Ls x).drop i).take (j - i) := by
  have hlen : x.length = (Ls x).length := by simp [Str.length]
  have idx : strSliceIndices (some (i : Int)) (some (j : Int)) 1 x.length = (List.range (min j x.length - min i x.length)).map (fun k => min i x.length + k) := by
    unfold strSliceIndices sliceRange
    simp only [show (1 : Int) > 0 by decide, if_true]
    have e1 : ¬ ((i : Int) < 0) := by omega
    have e2 : ¬ ((j : Int) < 0) := by omega
    rw [if_neg e1, if_neg e2]
    have m1 : max 0 (min (i : Int) (x.length : Int)) = ((min i x.length : Nat) : Int) := by omega
    have m2 : max 0 (min (j : Int) (x.length : Int)) = ((min j x.length : Nat) : Int) := by omega
    rw [m1, m2]
    generalize min i x.length = a
    generalize min j x.length = b
    have : (if (a : Int) < (b : Int) then ((b : Int) - a + 1 - 1) / 1 else 0).toNat = b - a := by
      split <;> simp <;> omega
    rw [this]
    apply List.map_congr_left
    intro k _
    omega
  have body : (strSliceIndices (some (i : Int)) (some (j : Int)) 1 x.length).filterMap (x.cps[·]?) = ((Ls x).drop i).take (j - i) := by
    rw [idx]
    have : (fun k : Nat => x.cps[k]?) = fun k => (Ls x)[k]? := by funext k; simp
    rw [this, StrLaws.picks (Ls x) _ _ (by omega)]
    rw [hlen]
    by_cases h : i ≤ (Ls x).length
    · rw [Nat.min_eq_left h]
      by_cases h2 : j ≤ (Ls x).length
      · rw [Nat.min_eq_left h2]
      · rw [Nat.min_eq_right (by omega)]
        rw [List.take_of_length_le (by rw [List.length_drop]; omega), List.take_of_length_le (by rw [List.length_drop]; omega)]
    · rw [Nat.min_eq_right (by omega : (Ls x).length ≤ i)]
      rw [List.drop_of_length_le (by omega : (Ls x).length ≤ i), List.drop_of_length_le (Nat.le_refl _)]
      simp
  unfold Txt.slice
  split
  · rename_i h
    simp only [Bool.and_eq_true, beq_iff_eq] at h
    have h2 := h.2
    rw [idx, List.length_map, List.length_range] at h2
    have hi : x.length = 0 ∨ i = 0 := by omega
    rcases hi with h0 | h0
    · have : Ls x = [] := List.eq_nil_of_length_eq_zero (by omega)
      show Ls x = _
      rw [this]; simp
    · subst h0
      show Ls x = _
      rw [List.drop_zero, List.take_of_length_le (by omega)]
  · show (List.filterMap _ _).toArray.toList = _
    rw [List.toList_toArray]; exact body

theorem contains_iff (x y : Str) : Txt.contains x y = true ↔ Ls y <:+: Ls x := by
  unfold Txt.contains
  rw [StrLaws.found_iff]
  constructor
  · rintro ⟨i, h1, h2⟩
    rw [StrLaws.subAt_eq, beq_iff_eq] at h2
    refine ⟨(Ls x).take i, ((Ls x).drop i).drop y.length, ?_⟩
    show (Ls x).take i ++ Ls y ++ _ = Ls x
    rw [← show ((Ls x).drop i).take y.length = Ls y from h2, List.append_assoc, List.take_append_drop, List.take_append_drop]
  · rintro ⟨a, b, h⟩
    have hy : y.length = (Ls y).length := by simp [Str.length]
    have hx : x.length = (Ls x).length := by simp [Str.length]
    refine ⟨a.length, ?_, ?_⟩
    · rw [hx, hy, ← h]; simp
    · rw [StrLaws.subAt_eq, beq_iff_eq]
      show ((Ls x).drop a.length).take y.length = Ls y
      rw [← h, hy, List.append_assoc, List.drop_left, List.take_left]

/-- the row's stretch i to j stands in the model -/
def okOf (row mod : Str) (i j : Nat) : Bool := Txt.contains mod (Txt.slice row (some (i : Int)) (some (j : Int)))

theorem okOf_iff {row mod : Str} {i j : Nat} : okOf row mod i j = true ↔ ((Ls row).drop i).take (j - i) <:+: Ls mod := by
  unfold okOf; rw [contains_iff, slice_toList]

theorem okay_of {row mod : Str} (h : ∀ c ∈ Ls row, c ∈ Ls mod) : Okay row.length (okOf row mod) where
  mono := fun i j i' j' hok h1 h2 h3 _ => by
    rw [okOf_iff] at hok ⊢
    refine List.IsInfix.trans ?_ hok
    have : ((Ls row).drop i').take (j' - i') = ((((Ls row).drop i).take (j - i)).drop (i' - i)).take (j' - i') := by
      rw [List.drop_take, List.drop_drop, List.take_take, Nat.min_eq_left (by omega)]
      congr 2; omega
    rw [this]
    exact List.IsInfix.trans (List.take_prefix _ _).isInfix (List.drop_suffix _ _).isInfix
  one := fun i hi => by
    rw [okOf_iff]
    have hlen : row.length = (Ls row).length := by simp [Str.length]
    rw [hlen] at hi
    have : ((Ls row).drop i).take (i + 1 - i) = [(Ls row)[i]] := by
      rw [Nat.add_sub_cancel_left, List.take_one, List.head?_drop]; simp [hi]
    rw [this]
    obtain ⟨a, b, e⟩ := List.append_of_mem (h _ (List.getElem_mem hi))
    exact ⟨a, b, by rw [e]; simp⟩

/-- the pieces of a road, as texts -/
def txts (row : Str) (ps : List (Nat × Nat)) : List Str := ps.map fun p => Txt.slice row (some (p.1 : Int)) (some (p.2 : Int))

theorem road_text {row mod : Str} {a : Nat} {ps : List (Nat × Nat)} (h : Road row.length (okOf row mod) a ps) : ((txts row ps).map Ls).flatten = (Ls row).take a := by
  induction h with
  | nil => simp [txts]
  | snoc r hlt f ih =>
    rename_i a b ps
    unfold txts at ih ⊢
    rw [List.map_append, List.map_append, List.flatten_append, ih]
    simp only [List.map_cons, List.map_nil, List.flatten_cons, List.flatten_nil, List.append_nil, slice_toList]
    have := f.1
    rw [show b = a + (b - a) by omega, List.take_add]
    congr 2; omega

theorem road_ok {n : Nat} {ok : Nat → Nat → Bool} (H : Okay n ok) {a : Nat} {ps : List (Nat × Nat)} (h : Road n ok a ps) : ∀ p ∈ ps, p.1 < p.2 ∧ p.2 ≤ n ∧ ok p.1 p.2 = true := by
  induction h with
  | nil => intro p hp; cases hp
  | snoc r hlt f ih =>
    intro p hp
    rcases List.mem_append.mp hp with hp | hp
    · exact ih p hp
    · rw [List.mem_singleton] at hp
      subst hp
      have := f.lt H hlt
      exact ⟨this, f.2.1, f.2.2.1 _ this (Nat.le_refl _)⟩

/-- the longest stretch, with one letter more, stands nowhere: not even at the row's end, where a dot follows -/
theorem no_more {row mod : Str} {i b : Nat} (f : IsFar row.length (okOf row mod) i b) (hi : i < row.length) (hd : 46 ∉ Ls mod) :
    Txt.contains mod (Txt.slice (row ++ ⟨#[46]⟩) (some (i : Int)) (some ((b + 1 : Nat) : Int))) = false := by
  cases e : Txt.contains mod (Txt.slice (row ++ ⟨#[46]⟩) (some (i : Int)) (some ((b + 1 : Nat) : Int))) with
  | false => rfl
  | true =>
    rw [contains_iff, slice_toList] at e
    have hlen : row.length = (Ls row).length := by simp [Str.length]
    have ha : Ls (row ++ ⟨#[46]⟩) = Ls row ++ [46] := by
      show (row.cps ++ #[46]).toList = _
      simp
    rw [ha] at e
    by_cases hb : b < row.length
    · have h2 := f.2.2.2 hb
      have : ((Ls row ++ [46]).drop i).take (b + 1 - i) = ((Ls row).drop i).take (b + 1 - i) := by
        rw [List.drop_append_of_le_length (by omega), List.take_append_of_le_length (by rw [List.length_drop]; omega)]
      rw [this, ← okOf_iff, h2] at e
      cases e
    · have hb2 : b = row.length := by have := f.2.1; omega
      refine absurd ?_ hd
      refine e.subset ?_
      rw [List.take_of_length_le (by rw [List.length_drop, List.length_append, List.length_singleton]; omega), List.drop_append_of_le_length (by omega)]
      simp
end Mine

namespace Mine
set_option maxRecDepth 100000
theorem markDefs : True := by w_top off; trivial
open PySem PySem.W PyProof.Rows

abbrev PR : Program := PySem.Challenge.rw_pg0001_01.row.prog

def fnParts : Stmt → Option (Arguments × List Stmt × Scope × Pos)
  | .FunctionDef _ a b _ _ _ sc _ _ p => some (a, b, sc, p)
  | _ => none
def topDef (k : Nat) : Option (Arguments × List Stmt × Scope × Pos) := (PySem.Challenge.pw_pg0001_01.main.body[k]?).bind fnParts
def partsOf (o : Option (Arguments × List Stmt × Scope × Pos)) : Arguments × List Stmt × Scope × Pos := o.getD (default, [], default, default)

/-- `_law_search`, as it stands in `_law_finder` -/
def seParts : Arguments × List Stmt × Scope × Pos := partsOf ((partsOf (topDef 4)).2.1[0]?.bind fnParts)
def seParams : Arguments := seParts.1
def seBody : List Stmt := seParts.2.1
def seScope : Scope := seParts.2.2.1

end Mine

namespace Mine
set_option maxRecDepth 100000
theorem markEnter : True := by w_top off; trivial
open PySem PySem.W PyProof.Rows PySem.Calls PySem.Spec

/-- the heap with the table laid aside -/
abbrev off (h : Heap) (P : Addr) : Heap := hideAll h [P]
theorem off_get {h : Heap} {P b : Addr} {o : Obj} (e : h.get? b = some o) (n : b ≠ P) : (off h P).get? b = some o := hideAll_get _ e (by simpa using n)
theorem of_off {h : Heap} {P b : Addr} {o : Obj} (e : (off h P).get? b = some o) : h.get? b = some o := of_hideAll _ e
theorem off_none {h : Heap} {P : Addr} : (off h P).get? P = none := hideAll_none _ (by simp)
theorem off_size {h : Heap} {P : Addr} : (off h P).objs.size = h.objs.size := hideAll_size _ _
theorem off_ne {h : Heap} {P b : Addr} {o : Obj} (e : (off h P).get? b = some o) : b ≠ P := fun q => by rw [q, off_none] at e; cases e

section
variable {w : World} {A : Around} {R : Result → Shared → Prop} {s : Shared}
abbrev seCl (L cm : Addr) : List (Str × Addr) := [("behind", L + 2), ("start", L + 1), ("model", cm)]
abbrev seEnv (qual : Str) (L fs cm c : Addr) : Env := envX qual seScope L fs (.ref c) (seCl L cm)
theorem se_enter {fs cm c P : Addr} {ps : Array Value} {name qual : Str} {dV doc pm ctv : Value} {args : Args} {v₁ v₂ : Value}
    (hroom : A.depth < recursionLimit)
    (hf : s.heap.get? fs = some (kdv_obj name qual seParams (.stmts seBody) seScope [("model", cm)] dV doc pm c ctv))
    (hcd : s.heap.CodeRec (.ref c) qual) (hlim : s.heap.NoLimit) (hP : s.heap.get? P = some (tabObj ps))
    (hb : BindsTo s (kdv_fn name qual seParams (.stmts seBody) seScope [("model", cm)] dV doc pm (.ref c) ctv) args [("chars", v₁), ("start", v₂)])
    (h : ∀ h₁ tk o₁ o₂, Fr (off s.heap P) s.heap.objs.size h₁ (fun y => if y = "chars" then some v₁ else none) →
      News (off s.heap P) s.heap.objs.size h₁ [(P, tabObj ps), (s.heap.objs.size + 1, o₁), (s.heap.objs.size + 2, o₂)] → o₁.data = .cell (some v₂) → o₂.data = .cell none →
      wpAny (model PR w) (A.deeper (seEnv qual s.heap.objs.size fs cm c)) (execs seBody (seEnv qual s.heap.objs.size fs cm c))
        (fun fl s' => R (.ok (.ret (match fl with | .ret v => v | _ => .none))) s') (fun _ _ => False) { s with heap := h₁, toks := tk }) :
    codeAny (model PR w) A (.call (.ref fs) args) R s := by
  refine codeAny_call_function hroom hf rfl (by rfl) (by rfl) rfl hcd (hb _ _ _ _ ?_)
  have hsc : seScope.names = ([((Str.ofString "chars"), .local), (Str.ofString "start", .cell), (Str.ofString "hit", .local), (Str.ofString "behind", .cell), (Str.ofString "model", .free), (Str.ofString "len", .globalImplicit)] : List (Str × NameKind)) := by rfl
  have hPL : P < s.heap.objs.size := Heap.lt_size hP
  simp only [newFunctionEnv, Option.isSome_none, Bool.false_eq_true, if_false, hsc]
  refine wpAny_bind (wpAny_alloc ?_)
  simp only [List.forIn_cons, List.forIn_nil, show ((NameKind.local == NameKind.cell) = false) from rfl, show ((NameKind.free == NameKind.cell) = false) from rfl, show ((NameKind.globalImplicit == NameKind.cell) = false) from rfl, show ((NameKind.cell == NameKind.cell) = true) from rfl, if_true, Bool.false_eq_true, if_false, pure_bind, bind_assoc]
  refine wpAny_bind (wpAny_alloc (wpAny_bind (wpAny_alloc ?_)))
  have z1 : (s.heap.push { cls := Value.type "frame", data := Data.dict #[] }).objs.size = s.heap.objs.size + 1 := Heap.size_push ..
  have z2 : ((s.heap.push { cls := Value.type "frame", data := Data.dict #[] }).push { cls := Value.type "cell", data := Data.cell none }).objs.size = s.heap.objs.size + 2 := by rw [Heap.size_push, z1]
  simp only [z1, z2]
  generalize hH : ((s.heap.push { cls := Value.type "frame", data := Data.dict #[] }).push { cls := Value.type "cell", data := Data.cell none }).push { cls := Value.type "cell", data := Data.cell none } = H
  have hk : ∀ b o, s.heap.get? b = some o → H.get? b = some o := fun b o e => hH ▸ Heap.get?_push_of_some _ (Heap.get?_push_of_some _ (Heap.get?_push_of_some _ e))
  have F : Fr (off s.heap P) s.heap.objs.size H (fun _ => none) := by
    refine ⟨?_, fun b o e => hk b o (of_off e), Nat.le_of_eq off_size⟩
    rw [← hH]; exact ((Heap.Ns.new s.heap (.type "frame")).push _).push _
  have nn : ∀ b, s.heap.objs.size ≤ b → (off s.heap P).get? b = none := fun b hb => Heap.get?_none_of_le (by rw [off_size]; exact hb)
  have N : News (off s.heap P) s.heap.objs.size H [(P, tabObj ps), (s.heap.objs.size + 1, { cls := Value.type "cell", data := Data.cell none }), (s.heap.objs.size + 2, { cls := Value.type "cell", data := Data.cell none })] := by
    refine List.forall_mem_cons.mpr ⟨⟨hk _ _ hP, Nat.ne_of_lt hPL, off_none⟩, List.forall_mem_cons.mpr ⟨⟨?_, Nat.ne_of_gt (Nat.lt_succ_self _), nn _ (Nat.le_succ _)⟩, List.forall_mem_cons.mpr ⟨⟨?_, Nat.ne_of_gt (Nat.lt_succ_of_lt (Nat.lt_succ_self _)), nn _ (Nat.le_add_right _ _)⟩, List.forall_mem_nil _⟩⟩⟩
    · rw [← hH]; refine Heap.get?_push_of_some _ ?_
      have := Heap.get?_push_size (s.heap.push { cls := Value.type "frame", data := Data.dict #[] }) (o := { cls := Value.type "cell", data := Data.cell none }) rfl
      rw [z1] at this; exact this
    · rw [← hH]
      have := Heap.get?_push_size ((s.heap.push { cls := Value.type "frame", data := Data.dict #[] }).push { cls := Value.type "cell", data := Data.cell none }) (o := { cls := Value.type "cell", data := Data.cell none }) rfl
      rw [z2] at this; exact this
  clear hH
  refine wpAny_bind (storeX_L (cn := qual) (s := ⟨H, _, _, _, _⟩) F N (fun h' F' N' => ?_) (by rfl) (by rfl))
  refine wpAny_bind (storeX_C (cn := qual) (s := ⟨h', _, _, _, _⟩) F' N' (c := s.heap.objs.size + 1) (o := { cls := Value.type "cell", data := Data.cell none }) (by rfl) (UpdF.tail ?_ (UpdF.head ?_)) (by rfl) (fun h'' o' F'' N'' hd => ?_) (by rfl) (by rfl))
  · exact Nat.ne_of_lt (Nat.lt_succ_of_lt hPL)
  · intro p hp; rw [List.mem_singleton] at hp; subst hp; exact Nat.succ_ne_self _
  refine wpAny_pure ⟨hlim.keeps fun b o e => ?_, codeAny_func ?_⟩
  · by_cases q : b = P
    · subst q; rw [hP] at e; cases e; exact (N'' _ (.head _)).1
    · exact F''.keep b o (off_get e q)
  · exact wpAny_mono (h h'' _ o' _ F'' N'' hd rfl) (fun _ _ x => x) fun _ _ x => x.elim
end
end Mine

namespace Mine
set_option maxRecDepth 100000
theorem markBaseF : True := by w_top off; trivial
open PySem PySem.W PyProof.Rows PySem.Calls PySem.Spec

noncomputable abbrev KF (w : World) : Frag := Mine.hd.heap_39 w.params
theorem noTabsK (w : World) : noTabs (KF w) = true := by kernel_rfl

/-- the module's own part, and what the walk knows of the built-in names -/
structure Base (w : World) (mg mb : Str → Option Value) (h : Heap) : Prop where
  K : (KF w).In h
  T : ∃ loose mean, Top topProg loose mean mg mb h
theorem Base.keeps {w : World} {mg mb : Str → Option Value} {h h' : Heap} (x : Base w mg mb h) (k : ∀ b o, h.get? b = some o → h'.get? b = some o) : Base w mg mb h' :=
  ⟨fun a o e => k _ _ (x.K a o e), let ⟨l, m, T⟩ := x.T; ⟨l, m, T.keeps k⟩⟩
theorem off_ns {h : Heap} {P a : Addr} {ps : Array Value} {m : Str → Option Value} (hP : h.get? P = some (tabObj ps)) (x : h.Ns a m) : (off h P).Ns a m :=
  let ⟨o, es, ep, e, hd, r⟩ := x; ⟨o, es, ep, off_get e (fun q => by rw [q, hP] at e; cases e; cases hd), hd, r⟩
theorem off_K {w : World} {h : Heap} {P : Addr} {ps : Array Value} (hP : h.get? P = some (tabObj ps)) (x : (KF w).In h) : (KF w).In (off h P) := fun a o e => by
  refine off_get (x a o e) fun q => ?_
  have h1 := x a o e
  rw [q, hP] at h1
  cases h1
  have h2 := List.all_eq_true.mp (noTabsK w) (a, tabObj ps) (mem_of_lookupK e)
  exact absurd (show false = true from h2) Bool.false_ne_true
theorem Base.off {w : World} {mg mb : Str → Option Value} {h : Heap} {P : Addr} {ps : Array Value} (x : Base w mg mb h) (hP : h.get? P = some (tabObj ps)) : Base w mg mb (off h P) where
  K := off_K hP x.K
  T := by
    obtain ⟨l, m, T⟩ := x.T
    refine ⟨l, m, ?_⟩
    exact {
      g := off_ns hP T.g
      b := off_ns hP T.b
      nolimit := let ⟨mc, a, r⟩ := T.nolimit; ⟨mc, off_ns hP a, r⟩
      nodigits := let ⟨mc, a, r⟩ := T.nodigits; ⟨mc, off_ns hP a, r⟩
      fn := fun d hd => absurd (show d ∈ ([] : List DefRec) from hd) List.not_mem_nil
      own := fun o ho => absurd (show o ∈ ([] : List OwnSpec) from ho) List.not_mem_nil
      const := fun x d e => by cases (show (none : Option PyData) = some d from e)
      free := T.free
      builtins := T.builtins
      tab := fun d hd => absurd (show d ∈ ([] : List DefRec) from hd) List.not_mem_nil
      bmain := let ⟨bm, ob, a1, a2, a3, a4, r⟩ := T.bmain; ⟨bm, ob, a1, a2, off_get a3 (fun q => by rw [q, hP] at a3; cases a3; cases a4), a4, r⟩
      seer := fun e => absurd (show false = true from e) Bool.false_ne_true }
end Mine

namespace Mine
set_option maxRecDepth 100000
set_option maxHeartbeats 400000
theorem markSe : True := by w_top off; trivial
open PySem PySem.W PyProof.Rows PySem.Calls PySem.Spec
theorem fillSe : (fun (_ : PySem.W.OpenLaw) (_ : Params → Frag) => True) PySem.Challenge.rw_pg0001_01 Mine.hd.heap_39 := by k_fill; trivial

def whTest : Stmt → Expr
  | .While t _ _ _ => t
  | _ => default
def seTest : Expr := whTest (seBody.getD 1 default)
theorem name_free {M : Model} {A : Around} {E : Value → Shared → Prop} {s : Shared} {h₀ : Heap} {L a : Addr} {m : Str → Option Value} {cn : Str} {cs : Scope} {ccd : Value} {cl : List (Str × Addr)} {x : Str} {pos : Pos} {v : Value} {Q : Value → Shared → Prop} {c : Addr} {o : Obj}
    (F : Fr h₀ L s.heap m) (hc : cl.lookup x = some c) (ho : h₀.get? c = some o) (hd : o.data = .cell (some v)) (h : Q v s)
    (hk : cs.kind = .function := by rfl) (hx : (envX cn cs L a ccd cl).kindOf x = some .free := by rfl) (hb : (x == ("__debug__" : Str)) = false := by decide) (hn : (x == ("__classdict__" : Str)) = false := by decide) :
    wpAny M A (eval (.Name x pos) (envX cn cs L a ccd cl)) Q E s := wpAny_Name (wpAny_loadName_free hk hx hc ⟨_, F.keep _ _ ho, hd⟩ h hn) hb

local macro_rules | `(tactic| walk_at "eval Name") => `(tactic| (k_dflt (refine' nameX_L ?F ?v ?_ ?a ?b; (case F => k_asm); (case a => rfl); (case b => rfl); (case v => assumption); k_whole)))
local macro_rules | `(tactic| walk_at "eval Name") => `(tactic| ((with_reducible show wpAny _ _ (eval (Expr.Name (Str.ofString "model") _) _) _ _ _); k_dflt (refine' name_free ?F ?c ?o ?d ?_ ?a ?b; (case a => rfl); (case b => rfl); (case F => k_asm); (case c => exact rfl); (case o => assumption); (case d => assumption); k_whole)))

theorem se_test {w : World} {A : Around} {h₀ h : Heap} {s : Shared} {L fs cm c P : Addr} {m mg mb : Str → Option Value} {loose : List Str} {mean : ExcName → Option Value} {qual row mod : Str} {t t1 t2 t3 : Tok} {st bh : Int} {o₁ o₂ om : Obj} {ps : Array Value} {tk : Nat} {E : Value → Shared → Prop}
    (X : (hd.heap_39 w.params).In h₀) (T : Top topProg loose mean mg mb h₀)
    (hcm : h₀.get? cm = some om) (hom : om.data = .cell (some (.str mod t3)))
    (F : Fr h₀ L h m) (hm : m "chars" = some (.str row t))
    (N : News h₀ L h [(P, tabObj ps), (L + 1, o₁), (L + 2, o₂)]) (d1 : o₁.data = .cell (some (.int st t1))) (d2 : o₂.data = .cell (some (.int bh t2)))
    (hrow : row.length = 7) :
    wpAny (model PR w) A (isTrue seTest (seEnv qual L fs cm c) (eval seTest (seEnv qual L fs cm c)))
      (fun b s₂ => ∃ h' tk', s₂ = { s with heap := h', toks := tk' } ∧ Fr h₀ L h' m ∧ News h₀ L h' [(P, tabObj ps), (L + 1, o₁), (L + 2, o₂)] ∧
        b = (decide (bh < 7) && Txt.contains mod (Txt.slice row (some st) (some (bh + 1))))) E { s with heap := h, toks := tk } := by
  have hlen : row.length ≤ sizeLine := by rw [hrow]; decide
  delta seTest
  with_unfolding_all (conv => arg 3; arg 1; whnf)
  with_unfolding_all (conv => arg 3; arg 3; arg 1; whnf)
  iterate 31 (walk1 <;> try dsimp only)
  · split
    · rename_i hb
      exact ⟨_, _, rfl, by assumption, by assumption, by simp [Txt.contains, hb]⟩
    · rename_i hb
      walk1
      refine ⟨_, _, rfl, by assumption, by assumption, ?_⟩
      have : bh < 7 := by omega
      simp [Txt.contains, hb, this]
  · refine ⟨_, _, rfl, by assumption, by assumption, ?_⟩
    have : ¬ bh < 7 := by omega
    simp [this]
end Mine

namespace Mine
set_option maxRecDepth 100000
theorem markFnAttr : True := by w_top off; trivial
open PySem PySem.W PyProof.Rows PySem.Calls PySem.Spec

theorem fnStore : StoreFacts "function" [.type "function", .type "object"] "object.__setattr__" "object" where
  mro := by kernel_rfl
  slot := .of (owner := "object") (n := "__setattr__") (by rw [typeLookup_type, builtinLookup_eq_fast]; kernel_rfl) (by decide +kernel) (by decide +kernel) (by decide +kernel)
    (by first | exact .inl (by decide +kernel) | exact .inr (by decide +kernel)) (by rw [isSubtype_type]; kernel_rfl)
  entry := PySem.F.store_object.entry
  kind := by decide +kernel
  split := by decide +kernel
  hasOwner := by decide +kernel
  args := fun a b c => by unfold argsOk; kernel_rfl
  passes := fun self => by kernel_rfl
theorem look_span : typeLookup (.type "function") "span" = pure none := by rw [typeLookup_type, builtinLookup_eq_fast]; kernel_rfl
theorem look_search : typeLookup (.type "function") "search" = pure none := by rw [typeLookup_type, builtinLookup_eq_fast]; kernel_rfl
theorem fnHasDict : typeHasDict (.type "function") = true := by decide +kernel


theorem looks_type {M : Model} {h : Heap} {q : Addr} {o : Obj} {T : String} (e : h.get? q = some o) (hc : o.cls = .type T) : Looks M h (typeOf (.ref q)) (.type T) :=
  fun _ _ _ s k hq => wpAny_typeOf_ref (k _ _ e) (by rw [hc]; exact hq)
theorem sub_fn_object : isSubtype (.type "function") (.type "object") = pure true := by rw [isSubtype_type]; kernel_rfl

/-- a function object that has no dict yet, given its first attribute -/
theorem fn_set {prog : Program} {w : World} {A : Around} {E : Value → Shared → Prop} {s : Shared} {q : Addr} {fd : FuncData} {name : Str} {v : Value} {Q : Unit → Shared → Prop}
    (hq : s.heap.get? q = some { cls := .type "function", data := .func fd }) (hl : typeLookup (.type "function") name = pure none)
    (h : ∀ d h', (∀ b o, s.heap.get? b = some o → b ≠ q → h'.get? b = some o) → s.heap.objs.size ≤ d → h'.get? q = some { cls := .type "function", dict := some d, data := .func fd } →
      h'.get? d = some (dictOf [⟨PyData.keyHash w.params name, .str name (s.toks + 1), v⟩] 1) → Q () { s with heap := h', toks := s.toks + 2 }) :
    wpAny (model prog w) A (setAttr (.ref q) name v) Q E s := by
  have lt : ∀ {h : Heap}, h.get? q = some { cls := .type "function", data := .func fd } → Looks (model prog w) h (typeOf (.ref q)) (.type "function") := fun e => looks_type e rfl
  refine wpAny_bind (wpAny_mkText (wpAny_bind (wpAny_bind (wpAny_bind (lt hq _ _ _ _ (fun _ _ e => e) ?_)))))
  rw [fnStore.slot.lookup]
  refine wpAny_pure (wpAny_holding ?_)
  rw [fnStore.slot.bind]
  refine wpAny_bind (wpAny_pure (wpAny_bind (wpAny_call ?_)))
  have sub : Looks (model prog w) s.heap (isInstance (.ref q) (.type "object")) true := (lt hq).andThen (Looks.of_pure sub_fn_object)
  refine codeAny_call_builtin fnStore.slot.plain fnStore.entry (@check_slot (model prog w) _ _ { s with toks := s.toks + 1 } "object.__setattr__" "object" "__setattr__" (.ref q) [.str name s.toks, v] [] _ fnStore.kind fnStore.split sub (fnStore.args (.ref q) (.str name s.toks) v) ?_)
  rw [List.singleton_append, osa_eq, refuse_eq]
  refine wpAny_bind (wpAny_bind (lt hq _ _ _ _ (fun _ _ e => e) ?_))
  rw [fnStore.mro]
  refine wpAny_bind (wpAny_pure ?_)
  rw [fnStore.passes]
  refine wpAny_pure (wpAny_bind (lt hq _ _ _ _ (fun _ _ e => e) ?_))
  rw [hl]
  refine wpAny_bind (wpAny_pure (wpAny_bind (wpAny_pure ?_)))
  show wpAny _ _ (Builtin.ObjectAttr.storeInOwnDict (.ref q) (.type "function") (.str name s.toks) name v false) _ _ _
  unfold Builtin.ObjectAttr.storeInOwnDict Builtin.ObjectAttr.ownDictForStores
  refine wpAny_bind (wpAny_pure ?_)
  rw [if_neg (by decide)]
  refine wpAny_bind ?_
  unfold instanceDict
  refine wpAny_bind (wpAny_loadPart hq ?_)
  dsimp only
  rw [fnHasDict]
  simp only [Bool.not_true, Bool.or_self, Bool.false_eq_true, if_false]
  refine wpAny_bind (wpAny_alloc ?_)
  have hq1 : (s.heap.push { cls := .type "dict", data := .dict #[] }).get? q = some { cls := .type "function", data := .func fd } := Heap.get?_push_of_some _ hq
  have hd1 : (s.heap.push { cls := .type "dict", data := .dict #[] }).get? s.heap.objs.size = some { cls := .type "dict", data := .dict #[] } := Heap.get?_push_size _ rfl
  have hne : s.heap.objs.size ≠ q := Nat.ne_of_gt (Heap.lt_size hq)
  refine wpAny_bind (wpAny_update hq1 ?_)
  generalize hH : (s.heap.push { cls := .type "dict", data := .dict #[] }).update q (fun o => { o with dict := some s.heap.objs.size }) = H
  have hs1 : Heap.SameBut q (s.heap.push { cls := .type "dict", data := .dict #[] }) H := hH ▸ Heap.SameBut.update ..
  have hq2 : H.get? q = some { cls := .type "function", dict := some s.heap.objs.size, data := .func fd } := hH ▸ Heap.get?_update_self _ hq1 rfl
  have hd2 : H.get? s.heap.objs.size = some { cls := .type "dict", data := .dict #[] } := (hs1.2 _ hne).trans hd1
  refine wpAny_pure ?_
  show wpAny _ _ (Builtin.ObjectAttr.storeInDict s.heap.objs.size (.str name s.toks) name v) _ _ _
  unfold Builtin.ObjectAttr.storeInDict
  refine wpAny_bind (wpAny_pure (wpAny_bind ?_))
  unfold nsSet
  refine wpAny_bind (wpAny_bind (wpAny_askSetting (wpAny_pure (wpAny_bind (wpAny_mkText (wpAny_bind (wpAny_loadPart hd2 ?_)))))))
  dsimp only
  rw [if_neg (by simp [aRefKeyMayBeTheName, nsNameIn])]
  rw [show (if name.cps.isEmpty = true then (0 : Int) else reduceHash ((model prog w).w.params.strHash name.cps)) = PyData.keyHash w.params name from rfl]
  have hp : Obj.putName name (PyData.keyHash w.params name) (.str name (s.toks + 1)) v (dictOf [] 0) = dictOf [⟨PyData.keyHash w.params name, .str name (s.toks + 1), v⟩] 1 := putName_dict ..
  refine wpAny_updatePart hd2 ?_
  generalize hH3 : H.update s.heap.objs.size (Obj.putName name (PyData.keyHash w.params name) (.str name (s.toks + 1)) v) = H3
  have hs2 : Heap.SameBut s.heap.objs.size H H3 := hH3 ▸ Heap.SameBut.update ..
  have hd3 : H3.get? s.heap.objs.size = some (dictOf [⟨PyData.keyHash w.params name, .str name (s.toks + 1), v⟩] 1) := by
    rw [← hH3, ← hp]; exact Heap.get?_update_self _ hd2 (by rw [hp]; rfl)
  refine wpAny_bind (wpAny_lookBehind hd3 (by rfl) (wpAny_pure (wpAny_pure (wpAny_pure ?_))))
  refine h s.heap.objs.size H3 (fun b o e ne => ?_) (Nat.le_refl _) ((hs2.2 _ (Ne.symm hne)).trans hq2) hd3
  refine (hs2.2 _ (Nat.ne_of_lt (Heap.lt_size e))).trans ((hs1.2 _ ne).trans (Heap.get?_push_of_some _ e))

theorem fnGa : Slot "function" "__getattribute__" "object.__getattribute__" :=
  .of (owner := "object") (n := "__getattribute__") (by rw [typeLookup_type, builtinLookup_eq_fast]; kernel_rfl) (by decide +kernel) (by decide +kernel) (by decide +kernel)
    (by first | exact .inl (by decide +kernel) | exact .inr (by decide +kernel)) (by rw [isSubtype_type]; kernel_rfl)
theorem entryGa : entryFor table "object.__getattribute__" = some Builtin.«object.__getattribute__» := entryFor_of_tree (by kernel_rfl)
theorem canonGa : (Manifest.canonical "object.__getattribute__" != "object.__getattribute__") = false := by decide +kernel
theorem look_getattr : typeLookup (.type "function") "__getattr__" = pure none := by rw [typeLookup_type, builtinLookup_eq_fast]; kernel_rfl
theorem look_bool : typeLookup (.type "function") "__bool__" = pure none := by rw [typeLookup_type, builtinLookup_eq_fast]; kernel_rfl
theorem look_len : typeLookup (.type "function") "__len__" = pure none := by rw [typeLookup_type, builtinLookup_eq_fast]; kernel_rfl

/-- an attribute that lies in a function object's own dict, called as a method -/
theorem fn_method {prog : Program} {w : World} {A : Around} {E : Value → Shared → Prop} {s : Shared} {q d v : Addr} {fd : FuncData} {sl : Array (Option Value)} {name : Str} {hsh : Int} {tk : Tok} {n : Nat} {pl : Sem Bool} {Q : Value × List Value → Shared → Prop}
    (hq : s.heap.get? q = some ⟨.type "function", some d, .func fd, sl⟩) (hd : s.heap.get? d = some (dictOf [⟨hsh, .str name tk, .ref v⟩] n))
    (hl : typeLookup (.type "function") name = pure none) (h : Q (.ref v, []) { s with toks := s.toks + 1 }) : wpAny (model prog w) A (getMethod (.ref q) name pl) Q E s := by
  have lt : Looks (model prog w) s.heap (typeOf (.ref q)) (.type "function") := looks_type hq rfl
  have ln : Looks (model prog w) s.heap (nsGet d name) (some (.ref v)) := by
    refine looks_nsIn (K := [(d, dictOf [⟨hsh, .str name tk, .ref v⟩] n)]) (fun a o e => ?_) ?_
    · rw [List.lookup_cons] at e
      split at e
      · rename_i hb; rw [beq_iff_eq] at hb; subst hb; cases e; exact hd
      · cases e
    · unfold nsIn; rw [List.lookup_cons, beq_self_eq_true]
      simp [Value.isStr]
  unfold getMethod
  refine wpAny_bind (wpAny_bind (lt _ _ _ _ (fun _ _ e => e) ?_))
  rw [fnGa.lookup]
  refine wpAny_pure ?_
  dsimp only
  rw [canonGa]
  simp only [Bool.false_eq_true, if_false]
  refine wpAny_bind (wpAny_bind (lt _ _ _ _ (fun _ _ e => e) ?_))
  rw [look_getattr]
  refine wpAny_pure ?_
  simp only [Option.isSome_none, Bool.false_eq_true, if_false]
  refine wpAny_bind (wpAny_bind (lt _ _ _ _ (fun _ _ e => e) ?_))
  rw [hl]
  refine wpAny_pure (wpAny_bind ?_)
  unfold getAttr getAttrBy
  refine wpAny_bind (wpAny_mkText (wpAny_holding (wpAny_bind (lt _ _ _ _ (fun _ _ e => e) ?_))))
  rw [fnGa.lookup]
  refine wpAny_bind (wpAny_pure ?_)
  show wpAny _ _ (getAttrByItsOwn (.ref q) (.str name s.toks) (.type "function") (.builtin "object.__getattribute__") true false) _ _ _
  unfold getAttrByItsOwn
  refine wpAny_bind (wpAny_pure (wpAny_bind (wpAny_attempt ?_)))
  refine wpAny_holding ?_
  show wpAny _ _ (boundAndCalled (.builtin "object.__getattribute__") (.ref q) (.str name s.toks)) _ _ _
  unfold boundAndCalled
  rw [fnGa.bind]
  refine wpAny_bind (wpAny_pure ?_)
  have hT : ({ s with toks := s.toks + 1 } : Shared).TypeIs (.ref q) "function" := ⟨_, hq, rfl⟩
  refine wpAny_call_entry (rest := [.str name s.toks]) fnGa hT entryGa ?_ (by unfold argsOk; kernel_rfl)
  unfold Builtin.«object.__getattribute__»
  refine wpAny_bind (wpAny_pure ?_)
  show wpAny _ _ (Builtin.ObjectAttr.attrName (.str name s.toks) >>= fun name => typeOf (.ref q) >>= fun tp => Builtin.ObjectAttr.find (.ref q) tp name >>= _) _ _ _
  refine wpAny_bind (wpAny_pure (wpAny_bind (lt _ _ _ _ (fun _ _ e => e) (wpAny_bind ?_))))
  unfold Builtin.ObjectAttr.find
  rw [hl]
  refine wpAny_bind (wpAny_pure (wpAny_bind (wpAny_pure (wpAny_bind (wpAny_pure ?_)))))
  show wpAny _ _ (Builtin.ObjectAttr.ownThenClass (.ref q) name none none) _ _ _
  unfold Builtin.ObjectAttr.ownThenClass Builtin.ObjectAttr.inOwnDict Builtin.ObjectAttr.ownDict
  refine wpAny_bind (wpAny_bind (wpAny_bind (wpAny_loadPart hq ?_)))
  unfold instanceDict
  refine wpAny_bind (wpAny_loadPart hq ?_)
  refine wpAny_pure (ln _ _ _ _ (fun _ _ e => e) (wpAny_bind (wpAny_rule (wpAny_pure (wpAny_pure ⟨_, rfl, ?_⟩)))))
  exact wpAny_pure (wpAny_pure h)

theorem fn_truthy {prog : Program} {w : World} {A : Around} {E : Value → Shared → Prop} {s : Shared} {q : Addr} {o : Obj} {Q : Bool → Shared → Prop}
    (hq : s.heap.get? q = some o) (hc : o.cls = .type "function") (h : Q true s) : wpAny (model prog w) A (truthy (.ref q)) Q E s := by
  have lt : Looks (model prog w) s.heap (typeOf (.ref q)) (.type "function") := looks_type hq hc
  unfold truthy callSpecial?
  refine wpAny_bind (wpAny_bind (wpAny_bind (lt _ _ _ _ (fun _ _ e => e) ?_)))
  rw [look_bool]
  refine wpAny_pure (wpAny_pure ?_)
  dsimp only
  refine wpAny_bind (wpAny_bind (lt _ _ _ _ (fun _ _ e => e) ?_))
  rw [look_len]
  exact wpAny_pure (wpAny_pure h)
end Mine

namespace Mine
set_option maxRecDepth 100000
set_option maxHeartbeats 1000000
theorem markSe2 : True := by w_top off; trivial
open PySem PySem.W PyProof.Rows PySem.Calls PySem.Spec
theorem fillSe2 : (fun (_ : PySem.W.OpenLaw) (_ : Params → Frag) => True) PySem.Challenge.rw_pg0001_01 Mine.hd.heap_39 := by k_fill; trivial

def asValue : Stmt → Expr
  | .Assign _ v _ => v
  | _ => default
def lamParts : Expr → Arguments × Expr × Scope × Pos
  | .Lambda a b sc p => (a, b, sc, p)
  | _ => default
def lam1 : Arguments × Expr × Scope × Pos := lamParts (asValue (seBody.getD 3 default))
def lam2 : Arguments × Expr × Scope × Pos := lamParts (asValue (seBody.getD 4 default))
abbrev tabFull (c1 c2 : Addr) : Array Value := #[rawInt (29 : Nat), rawInt (14 : Nat), .ref c1, rawInt (30 : Nat), rawInt (19 : Nat), .ref c2]

/-- the places that `_law_search`'s code keeps its lambdas' codes at: none yet, or both -/
def TabOk (h : Heap) (qual : Str) (P : Addr) : Prop :=
  h.get? P = some (tabObj #[]) ∨ ∃ c1 c2, h.get? P = some (tabObj (tabFull c1 c2)) ∧ h.CodeRec (.ref c1) qual ∧ h.CodeRec (.ref c2) qual

/-- a hit: a function object whose attribute `span` is a lambda over two cells; none of its objects lies at a place of bad -/
def HitAt (bad : List Addr) (h : Heap) (q : Addr) (i j : Int) : Prop :=
  ∃ d fd sl hsh tk n sp cb cs pm c2 ctv t1 t2 qual, h.get? q = some ⟨.type "function", some d, .func fd, sl⟩ ∧ h.get? d = some (dictOf [⟨hsh, .str "span" tk, .ref sp⟩] n) ∧
    h.get? sp = some (kla_obj "<lambda>" qual lam2.1 lam2.2.1 lam2.2.2.1 [("start", cs), ("behind", cb)] pm c2 ctv) ∧ h.CodeRec (.ref c2) qual ∧ h.IsCell cb (some (.int j t2)) ∧ h.IsCell cs (some (.int i t1)) ∧
    ∀ x ∈ bad, q ≠ x ∧ d ≠ x ∧ sp ≠ x ∧ c2 ≠ x ∧ cb ≠ x ∧ cs ≠ x
theorem HitAt.intro {bad : List Addr} {h : Heap} {q : Addr} {i j : Int} {d fd sl hsh tk n sp cb cs pm c2 ctv t1 t2 qual} (e1 : h.get? q = some ⟨.type "function", some d, .func fd, sl⟩) (e2 : h.get? d = some (dictOf [⟨hsh, .str "span" tk, .ref sp⟩] n))
    (e3 : h.get? sp = some (kla_obj "<lambda>" qual lam2.1 lam2.2.1 lam2.2.2.1 [("start", cs), ("behind", cb)] pm c2 ctv)) (e4 : h.CodeRec (.ref c2) qual) (e5 : h.IsCell cb (some (.int j t2))) (e6 : h.IsCell cs (some (.int i t1)))
    (e7 : ∀ x ∈ bad, q ≠ x ∧ d ≠ x ∧ sp ≠ x ∧ c2 ≠ x ∧ cb ≠ x ∧ cs ≠ x) : HitAt bad h q i j :=
  ⟨d, fd, sl, hsh, tk, n, sp, cb, cs, pm, c2, ctv, t1, t2, qual, e1, e2, e3, e4, e5, e6, e7⟩

/-- h' keeps all of h but the table -/
def Ext (P : Addr) (h h' : Heap) : Prop := ∀ b o, b ≠ P → h.get? b = some o → h'.get? b = some o
theorem Ext.trans {P : Addr} {h h' h'' : Heap} (a : Ext P h h') (b : Ext P h' h'') : Ext P h h'' := fun x o n e => b x o n (a x o n e)
theorem Ext.refl {P : Addr} {h : Heap} : Ext P h h := fun _ _ _ e => e
theorem ext_of_fr {P L : Addr} {h h' : Heap} {m : Str → Option Value} (F : Fr (off h P) L h' m) : Ext P h h' := fun b o n e => F.keep b o (off_get e n)

theorem Ext.at {P : Addr} {h h' : Heap} {ps : Array Value} {b : Addr} {o : Obj} (x : Ext P h h') (hP : h.get? P = some (tabObj ps)) (e : h.get? b = some o) (hn : ∀ ps, o ≠ tabObj ps) : h'.get? b = some o :=
  x b o (fun q => by rw [q, hP] at e; exact hn ps (Option.some.inj e).symm) e
theorem Ext.cell {P c : Addr} {h h' : Heap} {ps : Array Value} {v : Option Value} (x : Ext P h h') (hP : h.get? P = some (tabObj ps)) (e : h.IsCell c v) : h'.IsCell c v :=
  let ⟨o, e1, e2⟩ := e; ⟨o, x.at hP e1 (fun ps q => by rw [q] at e2; cases e2), e2⟩
theorem Ext.code {P : Addr} {h h' : Heap} {ps : Array Value} {c : Value} {q : Str} (x : Ext P h h') (hP : h.get? P = some (tabObj ps)) (hn : ∀ q t, ps[1]? ≠ some (.str q t)) (e : h.CodeRec c q) : h'.CodeRec c q :=
  let ⟨c', oc, vs, t, e1, e2, e3, e4⟩ := e
  ⟨c', oc, vs, t, e1, x c' oc (fun z => by rw [z, hP] at e2; cases e2; cases e3; exact hn _ _ e4) e2, e3, e4⟩
theorem TabOk.ps {h : Heap} {qual : Str} {P : Addr} (x : TabOk h qual P) : ∃ ps, h.get? P = some (tabObj ps) ∧ ∀ q t, ps[1]? ≠ some (.str q t) := by
  rcases x with e | ⟨c1, c2, e, _⟩
  · exact ⟨_, e, fun q t => by simp⟩
  · exact ⟨_, e, fun q t => by simp [rawInt]⟩
theorem HitAt.keeps {bad : List Addr} {h h' : Heap} {q a : Addr} {i j : Int} (x : HitAt bad h q i j) (e : Ext a h h') (ha : a ∈ bad) : HitAt bad h' q i j := by
  obtain ⟨d, fd, sl, hsh, tk, n, sp, cb, cs, pm, c2, ctv, t1, t2, qu, e1, e2, e3, ⟨c', oc, vs, tt, g1, g2, g3, g4⟩, ⟨o5, e5, f5⟩, ⟨o6, e6, f6⟩, e7⟩ := x
  obtain ⟨n1, n2, n3, n4, n5, n6⟩ := e7 a ha
  cases g1
  exact .intro (e _ _ n1 e1) (e _ _ n2 e2) (e _ _ n3 e3) ⟨_, oc, vs, tt, rfl, e _ _ n4 g2, g3, g4⟩ ⟨o5, e _ _ n5 e5, f5⟩ ⟨o6, e _ _ n6 e6, f6⟩ e7
theorem HitAt.fewer {bad bad' : List Addr} {h : Heap} {q : Addr} {i j : Int} (x : HitAt bad h q i j) (hb : ∀ y ∈ bad', y ∈ bad) : HitAt bad' h q i j := by
  obtain ⟨d, fd, sl, hsh, tk, n, sp, cb, cs, pm, c2, ctv, t1, t2, qu, e1, e2, e3, e4, e5, e6, e7⟩ := x
  exact .intro e1 e2 e3 e4 e5 e6 fun y hy => e7 y (hb y hy)
/-- what a store into a namespace leaves of the table -/
theorem TabOk.keepL {h h' : Heap} {qual : Str} {P L : Addr} {m : Str → Option Value} (x : TabOk h qual P) (n : h.Ns L m) (e : Ext L h h') : TabOk h' qual P := by
  obtain ⟨oL, es, ep, eL, dL, _⟩ := n
  have hrec : ∀ {c1 : Addr} {q : Str}, h.CodeRec (.ref c1) q → h'.CodeRec (.ref c1) q := fun ⟨c', oc, vs, t, g1, g2, g3, g4⟩ =>
    ⟨c', oc, vs, t, g1, e _ _ (fun z => by rw [z, eL] at g2; cases g2; rw [dL] at g3; cases g3) g2, g3, g4⟩
  have hne : ∀ {ps : Array Value}, h.get? P = some (tabObj ps) → P ≠ L := fun g z => by rw [z, eL] at g; cases g; cases dL
  rcases x with g | ⟨c1, c2, g, g1, g2⟩
  · exact .inl (e _ _ (hne g) g)
  · exact .inr ⟨c1, c2, e _ _ (hne g) g, hrec g1, hrec g2⟩

local macro_rules | `(tactic| walk_at "eval Name") => `(tactic| (k_dflt (refine' nameX_L ?F ?v ?_ ?a ?b; (case F => k_asm); (case a => rfl); (case b => rfl); (case v => assumption); k_whole)))

theorem se_loop {w : World} {A : Around} {h₀ h : Heap} {s : Shared} {L fs cm c P : Addr} {m mg mb : Str → Option Value} {loose : List Str} {mean : ExcName → Option Value} {qual row mod : Str} {t t1 t3 : Tok} {st : Nat} {o₁ o₂ om : Obj} {ps : Array Value} {tk : Nat} {Q : Flow → Shared → Prop}
    (X : (hd.heap_39 w.params).In h₀) (T : Top topProg loose mean mg mb h₀)
    (hcm : h₀.get? cm = some om) (hom : om.data = .cell (some (.str mod t3)))
    (F : Fr h₀ L h m) (hm : m "chars" = some (.str row t))
    (N : News h₀ L h [(P, tabObj ps), (L + 1, o₁), (L + 2, o₂)]) (d1 : o₁.data = .cell (some (.int st t1))) (d2 : o₂.data = .cell none)
    (hPL : @LT.lt Nat _ P L) (hrow : row.length = 7) (hst : st ≤ 7)
    (hQ : ∀ h' tk' o₁ o₂ t1 t2 b m', Fr h₀ L h' m' → m' "chars" = some (.str row t) → News h₀ L h' [(P, tabObj ps), (L + 1, o₁), (L + 2, o₂)] → o₁.data = .cell (some (.int (st : Nat) t1)) → o₂.data = .cell (some (.int (b : Nat) t2)) →
      IsFar 7 (okOf row mod) st b → wpAny (model PR w) A (execs (seBody.drop 2) (seEnv qual L fs cm c)) Q (fun _ _ => False) { s with heap := h', toks := tk' }) :
    wpAny (model PR w) A (execs seBody (seEnv qual L fs cm c)) Q (fun _ _ => False) { s with heap := h, toks := tk } := by
  delta seBody
  with_unfolding_all (conv => arg 3; arg 1; whnf)
  iterate 4 (walk1 <;> try dsimp only)
  rename_i h1 o1 F1 N1 d3
  refine wpAny_execs_cons (While_inv2 (n₀ := 7 - st) (fun n m' nx => m' "chars" = some (.str row t) ∧ ∃ (o₁ o₂ : Obj) (t1 t2 : Tok) (b : Nat), nx = [(P, tabObj ps), (L + 1, o₁), (L + 2, o₂)] ∧
    o₁.data = .cell (some (.int (st : Nat) t1)) ∧ o₂.data = .cell (some (.int (b : Nat) t2)) ∧ st ≤ b ∧ b ≤ 7 ∧ (∀ k, st < k → k ≤ b → okOf row mod st k = true) ∧ n = 7 - b)
    F1 N1 ⟨hm, o₁, o1, t1, t1, st, rfl, d1, d3, Nat.le_refl _, hst, fun k h1 h2 => absurd h1 (by omega), rfl⟩ ?_ PassesOwn.never)
  rintro n m₁ nx h₂ tk₂ F₂ N₂ ⟨hm₁, o₁', o₂', t1', t2', b, rfl, e1, e2, hb1, hb2, hok, rfl⟩
  refine wpAny_mono (se_test X T hcm hom F₂ hm₁ N₂ e1 e2 hrow) ?_ (fun _ _ x => x)
  rintro v s₂ ⟨h', tk', rfl, F₃, N₃, hv⟩
  have hcast : ((b : Int) + 1) = ((b + 1 : Nat) : Int) := by omega
  rw [hcast] at hv
  cases v with
  | false =>
    rw [if_neg (by decide)]
    refine hQ h' tk' o₁' o₂' t1' t2' b m₁ F₃ hm₁ N₃ e1 e2 ⟨hb1, hb2, hok, fun hlt => ?_⟩
    have h7 : (b : Int) < 7 := by omega
    rw [decide_eq_true h7, Bool.true_and] at hv
    exact hv.symm
  | true =>
    rw [if_pos rfl]
    have hv' := hv.symm
    rw [Bool.and_eq_true, decide_eq_true_eq] at hv'
    clear F₂ N₂ F1 N1
    iterate 2 (walk1 <;> try dsimp only)
    refine wpAny_loadName_cell (by rfl) (by rfl) (by exact rfl) ⟨o₂', N₃.get (.tail _ (.tail _ (.head _))), e2⟩ ?_
    iterate 3 (walk1 <;> try dsimp only)
    rename_i h4 o4 F4 N4 d4
    refine wpAny_execs_nil ⟨h4, _, m₁, _, 7 - (b + 1), rfl, F4, N4, by omega, hm₁, o₁', o4, t1', _, b + 1, rfl, e1, d4, by omega, by omega, fun k hk hk' => ?_, rfl⟩
    by_cases z : k = b + 1
    · rw [z]; exact hv'.2
    · exact hok k hk (by omega)
end Mine

namespace Mine
set_option maxRecDepth 100000
set_option maxHeartbeats 1000000
theorem markSe3 : True := by w_top off; trivial
open PySem PySem.W PyProof.Rows PySem.Calls PySem.Spec
theorem fillSe3 : (fun (_ : PySem.W.OpenLaw) (_ : Params → Frag) => True) PySem.Challenge.rw_pg0001_01 Mine.hd.heap_39 := by k_fill; trivial
local macro_rules | `(tactic| walk_at "eval Name") => `(tactic| (k_dflt (refine' nameX_L ?F ?v ?_ ?a ?b; (case F => k_asm); (case a => rfl); (case b => rfl); (case v => assumption); k_whole)))

theorem fr_turn {h₀ h h' : Heap} {L q : Addr} {m : Str → Option Value} (F : Fr h₀ L h m) (k : ∀ b o, h.get? b = some o → b ≠ q → h'.get? b = some o) (h1 : q ≠ L) (h2 : h₀.get? q = none) : Fr h₀ L h' m := by
  obtain ⟨o, es, ep, e, r⟩ := F.ns
  exact ⟨⟨o, es, ep, k _ _ e (Ne.symm h1), r⟩, fun b o e => k b o (F.keep b o e) (fun z => by rw [z, h2] at e; cases e), F.above⟩

theorem se_rest {w : World} {A : Around} {h₀ h : Heap} {s : Shared} {L fs cm c P : Addr} {m mg mb : Str → Option Value} {loose : List Str} {mean : ExcName → Option Value} {qual : Str} {t1 t2 : Tok} {st b : Nat} {o₁ o₂ : Obj} {ps : Array Value} {tk : Nat} {Q : Flow → Shared → Prop} {bad : List Addr}
    (X : (hd.heap_39 w.params).In h₀) (T : Top topProg loose mean mg mb h₀) (C : CodeHd h₀ c P)
    (F : Fr h₀ L h m) (N : News h₀ L h [(P, tabObj ps), (L + 1, o₁), (L + 2, o₂)]) (d1 : o₁.data = .cell (some (.int st t1))) (d2 : o₂.data = .cell (some (.int b t2)))
    (hPL : @LT.lt Nat _ P L) (hbad : ∀ x ∈ bad, @LT.lt Nat _ x L)
    (hT : ps = #[] ∨ ∃ c1 c2, ps = tabFull c1 c2 ∧ h₀.CodeRec (.ref c1) (qual ++ ".<locals>." ++ "<lambda>") ∧ h₀.CodeRec (.ref c2) (qual ++ ".<locals>." ++ "<lambda>") ∧ ∀ x ∈ bad, c2 ≠ x)
    (h0 : b = st → Q (.ret .none) { s with heap := h, toks := tk })
    (h1 : b ≠ st → ∀ h' tk' q, (∀ b o, h₀.get? b = some o → h'.get? b = some o) → TabOk h' (qual ++ ".<locals>." ++ "<lambda>") P → HitAt bad h' q st b → Q (.ret (.ref q)) { s with heap := h', toks := tk' }) :
    wpAny (model PR w) A (execs (seBody.drop 2) (seEnv qual L fs cm c)) Q (fun _ _ => False) { s with heap := h, toks := tk } := by
  delta seBody
  with_unfolding_all (conv => arg 3; arg 1; whnf)
  iterate 7 (walk1 <;> try dsimp only)
  split
  · rename_i hb
    have hb' : b = st := by have := eq_of_beq hb; omega
    iterate 3 (walk1 <;> try dsimp only)
    exact h0 hb'
  · rename_i hb
    have hb' : b ≠ st := fun e => hb (by simp [e])
    refine wpAny_execs_nil ?_
    dsimp only
    have hLs := F.ns.lt
    rcases hT with rfl | ⟨c1, c2, rfl, hc1, hc2, hcb⟩
    · iterate 9 (walk1 <;> try dsimp only)
      rename_i f1 cc1 oc1 vs1 tt1 _ _ _ e1 e2 _ _ _ _ _ f2 cc2 oc2 vs2 tt2 _ h3 _ F3 N3 e3 e4 _ _
      have hf1 := N3 _ (.tail _ (.tail _ (.head _)))
      refine fn_set hf1.1 look_span fun d h' hk hd hq hdd => ?_
      have F4 := fr_turn F3 hk hf1.2.1 hf1.2.2
      have g := fun (a : Addr) (o : Obj) (e : h3.get? a = some o) (n : a ≠ f1) => hk a o e n
      iterate 3 (walk1 <;> try dsimp only)
      have k1 := g _ _ (N3.get (.tail _ (.tail _ (.tail _ (.tail _ (.head _)))))) (by k_ne)
      have k2 : h'.CodeRec (.ref cc1) (qual ++ ".<locals>." ++ "<lambda>") := ⟨cc1, oc1, vs1, tt1, rfl, g _ _ (N3.get (.tail _ (.tail _ (.tail _ (.head _))))) (by k_ne), e1, e2⟩
      have k3 : h'.CodeRec (.ref cc2) (qual ++ ".<locals>." ++ "<lambda>") := ⟨cc2, oc2, vs2, tt2, rfl, g _ _ (N3.get (.tail _ (.head _))) (by k_ne), e3, e4⟩
      have k4 := g _ _ (N3.get (.head _)) (by k_ne)
      have k5 : h'.IsCell (L + 2) (some (.int b t2)) := ⟨o₂, g _ _ (N3.get (.tail _ (.tail _ (.tail _ (.tail _ (.tail _ (.tail _ (.head _)))))))) (by k_ne), d2⟩
      have k6 : h'.IsCell (L + 1) (some (.int st t1)) := ⟨o₁, g _ _ (N3.get (.tail _ (.tail _ (.tail _ (.tail _ (.tail _ (.head _))))))) (by k_ne), d1⟩
      refine h1 hb' _ _ f1 F4.keep (.inr ⟨cc1, cc2, k1, k2, k3⟩) (HitAt.intro hq hdd k4 k3 k5 k6 fun x hx => ?_)
      have hx' := hbad x hx
      have hd' : @LE.le Nat _ h3.objs.size d := hd
      have hL3 : @LT.lt Nat _ L h3.objs.size := F3.ns.lt
      exact ⟨by k_ne, by k_ne, by k_ne, by k_ne, by k_ne, by k_ne⟩
    · iterate 9 (walk1 <;> try dsimp only)
      rename_i f1 _ _ _ _ _ _ _ f2 _ h3 _ F3 N3 _
      have hf1 := N3 _ (.tail _ (.head _))
      refine fn_set hf1.1 look_span fun d h' hk hd hq hdd => ?_
      have F4 := fr_turn F3 hk hf1.2.1 hf1.2.2
      have g := fun (a : Addr) (o : Obj) (e : h3.get? a = some o) (n : a ≠ f1) => hk a o e n
      iterate 3 (walk1 <;> try dsimp only)
      have k1 := g _ _ (N3.get (.tail _ (.tail _ (.head _)))) (by k_ne)
      have k4 := g _ _ (N3.get (.head _)) (by k_ne)
      have k5 : h'.IsCell (L + 2) (some (.int b t2)) := ⟨o₂, g _ _ (N3.get (.tail _ (.tail _ (.tail _ (.tail _ (.head _)))))) (by k_ne), d2⟩
      have k6 : h'.IsCell (L + 1) (some (.int st t1)) := ⟨o₁, g _ _ (N3.get (.tail _ (.tail _ (.tail _ (.head _))))) (by k_ne), d1⟩
      refine h1 hb' _ _ f1 F4.keep (.inr ⟨c1, c2, k1, hc1.keeps F4.keep, hc2.keeps F4.keep⟩) (HitAt.intro hq hdd k4 (hc2.keeps F4.keep) k5 k6 fun x hx => ?_)
      have hx' := hbad x hx
      have hd' : @LE.le Nat _ h3.objs.size d := hd
      have hL3 : @LT.lt Nat _ L h3.objs.size := F3.ns.lt
      exact ⟨by k_ne, by k_ne, by k_ne, hcb x hx, by k_ne, by k_ne⟩
end Mine

namespace Mine
set_option maxRecDepth 100000
set_option maxHeartbeats 1000000
theorem markSe4 : True := by w_top off; trivial
open PySem PySem.W PyProof.Rows PySem.Calls PySem.Spec

/-- `_law_search` lies at fs, over the text mod; P is its code's table -/
def Srch (h : Heap) (fs P : Addr) (mod qual : Str) : Prop := ∃ cm c name dt doc pm ctv tm t0,
  h.get? fs = some (kdv_obj name qual seParams (.stmts seBody) seScope [("model", cm)] (.ref dt) doc pm c ctv) ∧ h.get? dt = some (kdv_tup [.int 0 t0]) ∧ h.CodeRec (.ref c) qual ∧ CodeHd h c P ∧ h.IsCell cm (some (.str mod tm))

theorem CodeHd.ext {h h' : Heap} {c P : Addr} (x : CodeHd h c P) (e : Ext P h h') : CodeHd h' c P :=
  let ⟨o, vs, file, tf, flags, tg, inF, text, tt, e1, e2, e3, e4, e5, e6, e7, e8, e9, ne⟩ := x
  ⟨o, vs, file, tf, flags, tg, inF, text, tt, e c o ne e1, e2, e3, e4, e5, e6, e7, e8, e9, ne⟩
theorem Srch.keeps {h h' : Heap} {fs P : Addr} {mod qual q' : Str} (x : Srch h fs P mod qual) (e : Ext P h h') (t : TabOk h q' P) : Srch h' fs P mod qual := by
  obtain ⟨ps, hP, hn⟩ := t.ps
  obtain ⟨cm, c, name, dt, doc, pm, ctv, tm, t0, e1, e2, e3, e4, e5⟩ := x
  exact ⟨cm, c, name, dt, doc, pm, ctv, tm, t0, e.at hP e1 (fun ps q => by cases q), e.at hP e2 (fun ps q => by cases q), e.code hP hn e3, CodeHd.ext e4 e, e.cell hP e5⟩

section
variable {w : World} {A : Around} {R : Result → Shared → Prop} {s : Shared} {mg mb : Str → Option Value} {fs P : Addr} {row mod qual : Str} {st : Nat} {t t' : Tok}
abbrev lamQual (qual : Str) : Str := qual ++ ".<locals>." ++ "<lambda>"
theorem se_spec {args : Args} {bad : List Addr} (hbad : ∀ x ∈ bad, x = P ∨ ∃ o, s.heap.get? x = some o ∧ ∀ vs, o.data ≠ .fields vs) (hroom : A.depth < recursionLimit) (B : Base w mg mb s.heap) (hS : Srch s.heap fs P mod qual) (hT : TabOk s.heap (lamQual qual) P) (hrow : row.length = 7) (hst : st ≤ 7)
    (ha : args = ⟨[.str row t, .int st t'], []⟩ ∨ (args = ⟨[.str row t], []⟩ ∧ st = 0))
    (h0 : IsFar 7 (okOf row mod) st st → ∀ h' tk, Ext P s.heap h' → TabOk h' (lamQual qual) P → R (.ok (.ret .none)) { s with heap := h', toks := tk })
    (h1 : ∀ h' tk q b, st ≠ b → IsFar 7 (okOf row mod) st b → Ext P s.heap h' → TabOk h' (lamQual qual) P → HitAt bad h' q st b → R (.ok (.ret (.ref q))) { s with heap := h', toks := tk }) :
    codeAny (model PR w) A (.call (.ref fs) args) R s := by
  obtain ⟨ps, hP, hn⟩ := hT.ps
  obtain ⟨cm, c, name, dt, doc, pm, ctv, tm, t0, e1, e2, e3, e4, e5⟩ := hS
  obtain ⟨loose, mean, T⟩ := B.T
  have hb : ∃ t'', BindsTo s (kdv_fn name qual seParams (.stmts seBody) seScope [("model", cm)] (.ref dt) doc pm (.ref c) ctv) args [("chars", .str row t), ("start", .int st t'')] := by
    rcases ha with rfl | ⟨rfl, rfl⟩
    · exact ⟨t', BindsTo.of_defaults (T := dt) rfl e2 rfl (by rfl) (by rfl)⟩
    · exact ⟨t0, BindsTo.of_defaults (T := dt) rfl e2 rfl (by rfl) (by rfl)⟩
  obtain ⟨t'', hb⟩ := hb
  refine se_enter hroom e1 e3 T.nolimit hP hb fun h₁ tk o₁ o₂ F N d1 d2 => ?_
  have B' := B.off hP
  obtain ⟨loose', mean', T'⟩ := B'.T
  obtain ⟨om, hom, hod⟩ := e5
  have hom' : (off s.heap P).get? cm = some om := off_get hom (fun q => by rw [q, hP] at hom; cases hom; cases hod)
  have C' : CodeHd (off s.heap P) c P := by
    obtain ⟨o, vs, file, tf, flags, tg, inF, text, tt, f1, f2, f3, f4, f5, f6, f7, f8, f9, ne⟩ := e4
    exact ⟨o, vs, file, tf, flags, tg, inF, text, tt, off_get f1 ne, f2, f3, f4, f5, f6, f7, f8, f9, ne⟩
  have hPL : @LT.lt Nat _ P s.heap.objs.size := Heap.lt_size hP
  have rec_off : ∀ {c1 : Addr} {q : Str}, s.heap.CodeRec (.ref c1) q → (off s.heap P).CodeRec (.ref c1) q := fun ⟨c', oc, vs, t, g1, g2, g3, g4⟩ =>
    ⟨c', oc, vs, t, g1, off_get g2 (fun z => by rw [z, hP] at g2; cases g2; cases g3; exact hn _ _ g4), g3, g4⟩
  refine se_loop B'.K T' hom' hod F (by rfl) N d1 d2 hPL hrow hst fun h' tk' o₁ o₂ t1 t2 b m' F' hm' N' d1' d2' far => ?_
  refine se_rest (bad := bad) B'.K T' C' F' N' d1' d2' hPL (fun x hx => ?_) ?_ (fun e => ?_) (fun ne h'' tk'' q hk ht hh => ?_)
  · rcases hbad x hx with rfl | ⟨o, ho, _⟩
    · exact hPL
    · exact Heap.lt_size ho
  · rcases hT with z | ⟨c1, c2, z, z1, z2⟩
    · rw [hP] at z; cases z; exact .inl rfl
    · rw [hP] at z; cases z; refine .inr ⟨c1, c2, rfl, rec_off z1, rec_off z2, fun x hx q => ?_⟩
      obtain ⟨c', oc, vs, tt, g1, g2, g3, g4⟩ := z2
      cases g1
      rcases hbad x hx with y | ⟨o, ho, hf⟩
      · rw [q, y, hP] at g2; cases g2; cases g3; exact hn _ _ g4
      · rw [q, ho] at g2; cases g2; exact hf _ g3
  · subst e
    refine h0 far h' tk' (ext_of_fr F') ?_
    have hP' := N'.get (.head _)
    rcases hT with z | ⟨c1, c2, z, z1, z2⟩
    · rw [hP] at z; cases z; exact .inl hP'
    · rw [hP] at z; cases z; exact .inr ⟨c1, c2, hP', (rec_off z1).keeps F'.keep, (rec_off z2).keeps F'.keep⟩
  · exact h1 h'' tk'' q b (Ne.symm ne) far (fun x o n e => hk x o (off_get e n)) ht hh
end
end Mine

namespace Mine
set_option maxRecDepth 100000
set_option maxHeartbeats 1000000
theorem markSpan : True := by w_top off; trivial
open PySem PySem.W PyProof.Rows PySem.Calls PySem.Spec
theorem fillSpan : (fun (_ : PySem.W.OpenLaw) (_ : Params → Frag) => True) PySem.Challenge.rw_pg0001_01 Mine.hd.heap_39 := by k_fill; trivial
local macro_rules | `(tactic| walk_at "a mark of this part") => `(tactic| fail "no step")
local macro_rules | `(tactic| walk_at "a mark of this part") => `(tactic| fail "no step")
local macro_rules | `(tactic| walk_at "eval Name") => `(tactic| (k_dflt (refine' name_free ?F ?c ?o ?d ?_ ?a ?b; (case a => rfl); (case b => rfl); (case F => k_asm); (case c => exact rfl); (case o => assumption); (case d => assumption); k_whole)))

theorem span_call {w : World} {A : Around} {E : Value → Shared → Prop} {s : Shared} {mg mb : Str → Option Value} {sp cs cb c2 : Addr} {i j : Int} {t1 t2 : Tok} {qual : Str} {pm ctv : Value} {Q : Value → Shared → Prop}
    (hroom : A.depth < recursionLimit) (B : Base w mg mb s.heap)
    (hsp : s.heap.get? sp = some (kla_obj "<lambda>" qual lam2.1 lam2.2.1 lam2.2.2.1 [("start", cs), ("behind", cb)] pm c2 ctv)) (hcd : s.heap.CodeRec (.ref c2) qual)
    (h5 : s.heap.IsCell cb (some (.int j t2))) (h6 : s.heap.IsCell cs (some (.int i t1)))
    (h : ∀ h' tk tu, (∀ b o, s.heap.get? b = some o → h'.get? b = some o) → s.heap.get? tu = none → h'.get? tu = some { cls := .type "tuple", data := .seq #[.int i t1, .int j t2] } → Q (.ref tu) { s with heap := h', toks := tk }) :
    wpAny (model PR w) A (call (.ref sp) []) Q E s := by
  obtain ⟨loose, mean, T⟩ := B.T
  obtain ⟨o5, ho5, hd5⟩ := h5
  obtain ⟨o6, ho6, hd6⟩ := h6
  refine wpAny_call (kla_callFunE hroom hsp rfl (by rfl) (by rfl) rfl hcd ?_)
  rw [show bindArgs (kla_fn "<lambda>" qual lam2.1 lam2.2.1 lam2.2.2.1 [("start", cs), ("behind", cb)] pm (.ref c2) ctv) ⟨[], []⟩ = pure [] from by rfl]
  have hk : lam2.2.2.1.kind = .function := by rfl
  refine wpAny_pure (wpAny_newFunctionEnv (show ∀ x ∈ lam2.2.2.1.names, x.2 ≠ .cell from by decide) (fun x hx => nomatch hx) (fun h₁ hns hsb => ⟨T.nolimit.fresh _ hsb, ?_⟩) hk)
  show codeAny _ _ (.expr lam2.2.1 (envX qual lam2.2.2.1 s.heap.objs.size sp (.ref c2) [("start", cs), ("behind", cb)])) _ _
  refine kla_codeExpr (wpAny_mono (?_ : wpAny _ _ _ _ (fun _ _ => False) _) (fun _ _ x => x) (fun _ _ x => x.elim))
  have hk₁ : ∀ b o, s.heap.get? b = some o → h₁.get? b = some o := fun b o e => hsb.extBut b o (Nat.ne_of_lt (Heap.lt_size e)) (Heap.get?_push_of_some _ e)
  have F : Fr s.heap s.heap.objs.size h₁ (fun x => ([] : List (Str × Value)).reverse.lookup x) := ⟨hns, hk₁, Nat.le_refl _⟩
  have N : News s.heap s.heap.objs.size h₁ [] := News.nil
  have X := B.K
  clear hns hsb
  with_unfolding_all (conv => arg 3; arg 1; whnf)
  iterate 7 (walk1 <;> try dsimp only)
  rename_i tu h' F' N' _
  exact h h' _ tu F'.keep (N' _ (.head _)).2.2 (N' _ (.head _)).1

theorem While_invH {prog : Program} {w : World} {A : Around} {E : Value → Shared → Prop} {Q : Flow → Shared → Prop} {s : Shared} {env : Env} {test : Expr} {body : List Stmt} {pos : Pos} (J : Nat → Heap → Prop) {n₀ : Nat} (hJ : J n₀ s.heap)
    (turn : ∀ n h tk, J n h → wpAny (model prog w) A (isTrue test env (eval test env)) (fun b s₂ =>
        if b = true then wpAny (model prog w) A (execs body env) (fun f s₃ => match f with
          | .next | .cont => ∃ n' h' tk', s₃ = { s with heap := h', toks := tk' } ∧ n' < n ∧ J n' h'
          | .brk => Q .next s₃
          | .ret v => Q (.ret v) s₃) E s₂ else Q .next s₂) E { s with heap := h, toks := tk })
    (hE : PassesOwn (model prog w) A env E) :
    wpAny (model prog w) A (exec (.While test body [] pos) env) Q E s := by
  refine wpAny_While (codeAny_whileLoop (fun n s' => ∃ h tk, s' = { s with heap := h, toks := tk } ∧ J n h) ?_ n₀ ⟨s.heap, s.toks, rfl, hJ⟩)
  rintro n s' ⟨h₁, tk₁, rfl, J₁⟩
  refine wpAny_mono (turn n h₁ tk₁ J₁) (fun b s₂ h₂ => ?_) hE
  cases b with
  | false =>
    simp only [Bool.false_eq_true, if_false] at h₂ ⊢
    exact wpAny_execs_nil h₂
  | true =>
    simp only [if_true] at h₂ ⊢
    refine wpAny_mono h₂ (fun f s₃ h₃ => ?_) hE
    cases f with
    | next =>
      obtain ⟨n', h', tk, rfl, hn, J₂⟩ := h₃
      exact ⟨n', hn, h', tk, rfl, J₂⟩
    | cont =>
      obtain ⟨n', h', tk, rfl, hn, J₂⟩ := h₃
      exact ⟨n', hn, h', tk, rfl, J₂⟩
    | brk => exact h₃
    | ret v => exact h₃
end Mine

namespace Mine
set_option maxRecDepth 100000
set_option maxHeartbeats 1000000
theorem markSr : True := by w_top off; trivial
open PySem PySem.W PyProof.Rows PySem.Calls PySem.Spec
theorem fillSr : (fun (_ : PySem.W.OpenLaw) (_ : Params → Frag) => True) PySem.Challenge.rw_pg0001_01 Mine.hd.heap_39 := by k_fill; trivial

def srParts : Arguments × List Stmt × Scope × Pos := partsOf (topDef 1)
def srBody : List Stmt := srParts.2.1
def srScope : Scope := srParts.2.2.1
abbrev srEnv (L : Addr) : Env := envX "search_reverse" srScope L 21 (.ref 20) []

/-- a function of the module, entered: one table laid aside -/
theorem sr_enter {w : World} {A : Around} {R : Result → Shared → Prop} {s : Shared} {mg mb : Str → Option Value} {P : Addr} {ps : Array Value} {v₁ v₂ v₃ : Value}
    (hroom : A.depth < recursionLimit) (B : Base w mg mb s.heap) (hP : s.heap.get? P = some (tabObj ps))
    (h : ∀ h₁ tk, Fr (off s.heap P) s.heap.objs.size h₁ (fun x => ([("prog", v₁), ("chars", v₂), ("col", v₃)] : List (Str × Value)).reverse.lookup x) → News (off s.heap P) s.heap.objs.size h₁ [(P, tabObj ps)] →
      wpAny (model PR w) (A.deeper (srEnv s.heap.objs.size)) (execs srBody (srEnv s.heap.objs.size)) (fun fl s' => R (.ok (.ret (match fl with | .ret v => v | _ => .none))) s') (fun _ _ => False) { s with heap := h₁, toks := tk }) :
    codeAny (model PR w) A (.call (.ref 21) ⟨[v₁, v₂, v₃], []⟩) R s := by
  obtain ⟨loose, mean, T⟩ := B.T
  have X : (hd.heap_39 w.params).In s.heap := B.K
  refine codeAny_call_def (binds := [("prog", v₁), ("chars", v₂), ("col", v₃)]) hroom (X 21 _ (by k_is)) rfl T.nolimit (codeRec_of X (by k_is)) rfl (BindsTo.of_eq (by rfl)) (by decide) (locs (by rfl)) (fun h₁ hns hk₁ => ?_) (by rfl) (by rfl) (by rfl)
  have F : Fr (off s.heap P) s.heap.objs.size h₁ (fun x => ([("prog", v₁), ("chars", v₂), ("col", v₃)] : List (Str × Value)).reverse.lookup x) := by
    exact ⟨hns, fun b o e => hk₁ b o (of_off e), Nat.le_of_eq off_size⟩
  have N : News (off s.heap P) s.heap.objs.size h₁ [(P, tabObj ps)] := List.forall_mem_cons.mpr ⟨⟨hk₁ _ _ hP, Nat.ne_of_lt (Heap.lt_size hP), off_none⟩, List.forall_mem_nil _⟩
  exact wpAny_mono (h h₁ _ F N) (fun _ _ x => x) fun _ _ x => x.elim

/-- the program object: a function whose attribute `search` is fs -/
def ProgAt (h : Heap) (pr fs : Addr) : Prop := ∃ d fd sl hsh tk n, h.get? pr = some ⟨.type "function", some d, .func fd, sl⟩ ∧ h.get? d = some (dictOf [⟨hsh, .str "search" tk, .ref fs⟩] n)
theorem ProgAt.keeps {h h' : Heap} {pr fs P : Addr} {q : Str} (x : ProgAt h pr fs) (e : Ext P h h') (t : TabOk h q P) : ProgAt h' pr fs := by
  obtain ⟨ps, hP, hn⟩ := t.ps
  obtain ⟨d, fd, sl, hsh, tk, n, e1, e2⟩ := x
  exact ⟨d, fd, sl, hsh, tk, n, e.at hP e1 (fun ps q => by cases q), e.at hP e2 (fun ps q => by cases q)⟩

theorem ProgAt.mono {h h' : Heap} {pr fs : Addr} (x : ProgAt h pr fs) (k : ∀ b o, h.get? b = some o → h'.get? b = some o) : ProgAt h' pr fs :=
  let ⟨d, fd, sl, hsh, tk, n, e1, e2⟩ := x; ⟨d, fd, sl, hsh, tk, n, k _ _ e1, k _ _ e2⟩
theorem Srch.mono {h h' : Heap} {fs P : Addr} {mod qual : Str} (x : Srch h fs P mod qual) (k : ∀ b o, h.get? b = some o → h'.get? b = some o) : Srch h' fs P mod qual :=
  let ⟨cm, c, name, dt, doc, pm, ctv, tm, t0, e1, e2, e3, e4, e5⟩ := x; ⟨cm, c, name, dt, doc, pm, ctv, tm, t0, k _ _ e1, k _ _ e2, e3.keeps k, e4.keeps k, e5.keeps k⟩
theorem TabOk.keepAll {h h' : Heap} {qual : Str} {P : Addr} (x : TabOk h qual P) (k : ∀ b o, h.get? b = some o → h'.get? b = some o) : TabOk h' qual P :=
  x.imp (fun e => k _ _ e) fun ⟨c1, c2, e, e1, e2⟩ => ⟨c1, c2, k _ _ e, e1.keeps k, e2.keeps k⟩
theorem after_new {h₀ h h' : Heap} {L a : Addr} {o : Obj} {m : Str → Option Value} {news : List (Addr × Obj)} (F : Fr h₀ L h m) (N : News h₀ L h news) (k : ∀ b o, h.get? b = some o → h'.get? b = some o) (n : h.get? a = none) (e : h'.get? a = some o) :
    Fr h₀ L h' m ∧ News h₀ L h' ((a, o) :: news) := by
  refine ⟨⟨F.ns.keeps k, fun b o e => k b o (F.keep b o e), F.above⟩, List.forall_mem_cons.mpr ⟨⟨e, fun z => ?_, ?_⟩, fun p hp => ⟨k _ _ (N p hp).1, (N p hp).2⟩⟩⟩
  · obtain ⟨oL, es, ep, g, _⟩ := F.ns
    have z' : a = L := z
    rw [z', g] at n; cases n
  · cases q : h₀.get? a with
    | none => rfl
    | some o' => rw [F.keep _ _ q] at n; cases n
theorem after_keep {h₀ h h' : Heap} {L : Addr} {m : Str → Option Value} {news : List (Addr × Obj)} (F : Fr h₀ L h m) (N : News h₀ L h news) (k : ∀ b o, h.get? b = some o → h'.get? b = some o) :
    Fr h₀ L h' m ∧ News h₀ L h' news := ⟨⟨F.ns.keeps k, fun b o e => k b o (F.keep b o e), F.above⟩, fun p hp => ⟨k _ _ (N p hp).1, (N p hp).2⟩⟩
theorem after_ext {h₀ h h' : Heap} {L P : Addr} {m : Str → Option Value} {ps ps' : Array Value} (F : Fr h₀ L h m) (N : News h₀ L h [(P, tabObj ps)]) (e : Ext P h h') (hP' : h'.get? P = some (tabObj ps')) : Fr h₀ L h' m ∧ News h₀ L h' [(P, tabObj ps')] := by
  have n := N _ (.head _)
  exact ⟨fr_turn F (fun b o q ne => e b o ne q) n.2.1 n.2.2, List.forall_mem_cons.mpr ⟨⟨hP', n.2⟩, List.forall_mem_nil _⟩⟩

theorem st_sr {M : Model} {A : Around} {E : Value → Shared → Prop} {s : Shared} {h₀ : Heap} {L a P : Addr} {m : Str → Option Value} {cn qual : Str} {cs : Scope} {ccd : Value} {cl : List (Str × Addr)} {x : Str} {v : Value} {Q : Unit → Shared → Prop} {news : List (Addr × Obj)} {bad : List Addr}
    (F : Fr h₀ L s.heap m) (N : News h₀ L s.heap news) (t : TabOk s.heap qual P) (hL : L ∈ bad)
    (h : ∀ h', Fr h₀ L h' (fun y => if y = x then some v else m y) → News h₀ L h' news → TabOk h' qual P → (∀ q i j, HitAt bad s.heap q i j → HitAt bad h' q i j) → Q () { s with heap := h', toks := s.toks + 1 })
    (hk : cs.kind = .function := by rfl) (hx : (envX cn cs L a ccd cl).kindOf x = some .local := by rfl) : wpAny M A (storeName (envX cn cs L a ccd cl) x v) Q E s :=
  wpAny_storeName_local hx F.ns (fun h' hn hs => h h' (F.set hn hs) (N.set hs) (t.keepL F.ns fun b o ne e => (hs.2 b ne).trans e) fun q i j y => y.keeps (fun b o ne e => (hs.2 b ne).trans e) hL) (by show (cs.kind == .class || (cs.kind == .module && L != mainGlobals)) = false; rw [hk]; rfl)

/-- a, b = x.span() -/
theorem span_stmt {w : World} {A : Around} {E : Value → Shared → Prop} {s : Shared} {mg mb : Str → Option Value} {h h₀ : Heap} {L a P q : Addr} {m : Str → Option Value} {cn qual : Str} {cs : Scope} {ccd : Value} {cl : List (Str × Addr)} {news : List (Addr × Obj)} {bad : List Addr}
    {x x1 x2 : Str} {p1 p2 p3 p4 p5 p6 p7 : Pos} {i j : Int} {tk : Nat} {Q : Flow → Shared → Prop}
    (hh : A.handled = none) (hroom : A.depth < recursionLimit) (B : Base w mg mb h) (F : Fr h₀ L h m) (N : News h₀ L h news) (tab : TabOk h qual P) (hL : L ∈ bad) (hit : HitAt bad h q i j) (hm : m x = some (.ref q))
    (hQ : ∀ h' tk' t1 t2, Fr h₀ L h' (fun y => if y = x2 then some (.int j t2) else if y = x1 then some (.int i t1) else m y) → News h₀ L h' news → TabOk h' qual P → (∀ q i j, HitAt bad h q i j → HitAt bad h' q i j) → Q .next { s with heap := h', toks := tk' })
    (hk : cs.kind = .function) (kx : (envX cn cs L a ccd cl).kindOf x = some .local) (k1 : (envX cn cs L a ccd cl).kindOf x1 = some .local) (k2 : (envX cn cs L a ccd cl).kindOf x2 = some .local) (hb : (x == ("__debug__" : Str)) = false)
    {pl : Sem Bool} (he : eval (.Call (.Attribute (.Name x p4) "span" p5) [] [] p6) (envX cn cs L a ccd cl) = (do
      let ov ← eval (.Name x p4) (envX cn cs L a ccd cl)
      standAt p5.atName
      let (f, first) ← holding [ov] (getMethod ov "span" pl)
      callWith p6 f first (backTo p6 (starEach [] (envX cn cs L a ccd cl))) [])) :
    wpAny (model PR w) A (exec (.Assign [.Tuple [.Name x1 p1, .Name x2 p2] 0 p3] (.Call (.Attribute (.Name x p4) "span" p5) [] [] p6) p7) (envX cn cs L a ccd cl)) Q E { s with heap := h, toks := tk } := by
  refine Assign_Tuple (MethodCall_ (nameX_L (s := ⟨h, _, _, _, _⟩) F hm ?_ hk kx hb) he) (by rfl) (by rfl)
  obtain ⟨dq, fdq, slq, hshq, tkq, nq, spq, cbq, csq, pmq, c2q, ctvq, t1q, t2q, quq, a1, a2, a3, a4, a5, a6, a7⟩ := id hit
  refine fn_method a1 a2 look_span ?_
  try dsimp only
  refine callWith_F0 ⟨_, _, _, _, a3⟩ ?_
  rw [List.nil_append]
  refine span_call hroom B a3 a4 a5 a6 fun h4 tk4 tu k4 n4 e4 => ?_
  refine assign_Tuple_tuple hh ⟨_, e4, rfl, _, rfl⟩ (by rfl) (by rfl) fun h5 he5 => ?_
  have k5 : ∀ b o, h.get? b = some o → h5.get? b = some o := fun b o e => he5 b o (Nat.ne_of_lt (Heap.lt_size (k4 b o e))) (k4 b o e)
  have F5 : Fr h₀ L h5 m := ⟨F.ns.keeps k5, fun b o e => k5 b o (F.keep b o e), F.above⟩
  have N5 : News h₀ L h5 news := fun p hp => ⟨k5 _ _ (N p hp).1, (N p hp).2⟩
  have T5 : TabOk h5 qual P := tab.imp (fun e => k5 _ _ e) fun ⟨c1, c2, e, e1, e2⟩ => ⟨c1, c2, k5 _ _ e, e1.keeps k5, e2.keeps k5⟩
  refine assignInOrder_cons (wpAny_assign_Name (st_sr (s := ⟨h5, _, _, _, _⟩) F5 N5 T5 hL (fun h6 F6 N6 T6 K6 => ?_) hk k1))
  refine assignInOrder_cons (wpAny_assign_Name (st_sr (s := ⟨h6, _, _, _, _⟩) F6 N6 T6 hL (fun h7 F7 N7 T7 K7 => ?_) hk k2))
  refine assignInOrder_nil ?_
  exact hQ h7 _ _ _ F7 N7 T7 fun q i j y => K7 _ _ _ (K6 _ _ _ (y.keeps (fun b o _ e => k5 b o e) hL))
local macro_rules | `(tactic| walk_at "storeName") => `(tactic| (k_dflt (refine' st_sr ?F ?N ?T ?L ?_ ?a ?b; (case F => k_asm); (case N => k_asm); (case a => rfl); (case b => rfl); (case T => assumption); (case L => assumption); k_whole; intro h' F' N' T' K'; (try k_sweep))))

local macro_rules | `(tactic| walk_at "eval Name") => `(tactic| (k_dflt (refine' nameX_L ?F ?v ?_ ?a ?b; (case F => k_asm); (case a => rfl); (case b => rfl); (case v => first | with_reducible assumption | ((try dsimp only); repeat (first | with_reducible assumption | exact if_pos rfl | refine Eq.trans (if_neg (by decide)) ?_)) | with_reducible rfl); k_whole)))
section
variable {w : World} {A : Around} {s : Shared} {mg mb : Str → Option Value} {pr fs P : Addr} {row mod qual : Str} {col : Nat} {t t' : Tok} {ps : Array Value}
theorem sr_body {h : Heap} {L : Addr} {tk : Nat} {Q : Flow → Shared → Prop} {bad : List Addr} (hh : A.handled = none) (hroom : (A.deeper (srEnv L)).depth < recursionLimit) {h₀ : Heap} (B : Base w mg mb h₀)
    (F : Fr h₀ L h (fun x => ([("prog", .ref pr), ("chars", .str row t), ("col", .int col t')] : List (Str × Value)).reverse.lookup x)) (N : News h₀ L h [(P, tabObj ps)])
    (hS : Srch h₀ fs P mod qual) (hT : TabOk h (lamQual qual) P) (hG : ProgAt h₀ pr fs) (hrow : row.length = 7) (H : Okay 7 (okOf row mod)) (hcol : col ≤ 7)
    (hLb : L ∈ bad) (hPb : P ∈ bad) (hbad : ∀ x ∈ bad, x = P ∨ x = L ∨ ∃ o, h₀.get? x = some o ∧ ∀ vs, o.data ≠ .fields vs)
    (hN : ∀ h' tk b m ps', Fr h₀ L h' m → News h₀ L h' [(P, tabObj ps')] → TabOk h' (lamQual qual) P → IsFar 7 (okOf row mod) 0 b → col < b → Q (.ret .none) { s with heap := h', toks := tk })
    (hS' : ∀ h' tk q i a rs m ps', Fr h₀ L h' m → News h₀ L h' [(P, tabObj ps')] → TabOk h' (lamQual qual) P → HitAt bad h' q (i : Nat) (a : Nat) → Road 7 (okOf row mod) i rs → i < 7 → IsFar 7 (okOf row mod) i a → a ≤ col →
      (a = 7 ∨ ∀ b, IsFar 7 (okOf row mod) a b → col < b) → Q (.ret (.ref q)) { s with heap := h', toks := tk }) :
    wpAny (model PR w) (A.deeper (srEnv L)) (execs srBody (srEnv L)) Q (fun _ _ => False) { s with heap := h, toks := tk } := by
  have X : (hd.heap_39 w.params).In h₀ := B.K
  obtain ⟨loose, mean, T⟩ := B.T
  have hbad' : ∀ {h : Heap} {m : Str → Option Value}, Fr h₀ L h m → ∀ x ∈ bad, x = P ∨ ∃ o, h.get? x = some o ∧ ∀ vs, o.data ≠ .fields vs := fun F x hx => by
    rcases hbad x hx with e | e | ⟨o, e, ne⟩
    · exact .inl e
    · obtain ⟨oL, es, ep, g1, g2, _⟩ := F.ns
      exact .inr ⟨oL, e ▸ g1, fun vs => by rw [g2]; exact fun z => by cases z⟩
    · exact .inr ⟨o, F.keep _ _ e, ne⟩
  delta srBody
  with_unfolding_all (conv => arg 3; arg 1; whnf)
  obtain ⟨dP, fdP, slP, hshP, tkP, nP, g1, g2⟩ := id hG
  obtain ⟨cm, c, name, dt, doc, pm, ctv, tm, t0, e1, _⟩ := id hS
  iterate 4 (walk1 <;> try dsimp only)
  refine fn_method (F.keep _ _ g1) (F.keep _ _ g2) look_search ?_
  try dsimp only
  refine callWith_F ⟨_, _, _, _, F.keep _ _ e1⟩ ?_
  iterate 3 (walk1 <;> try dsimp only)
  refine ⟨⟨_, _, _, _, F.keep _ _ e1⟩, wpAny_call (se_spec (st := 0) (t' := 0) (hbad' F) hroom (B.keeps F.keep) (hS.mono F.keep) hT hrow (by omega) (.inr ⟨rfl, rfl⟩) (fun far => ?_) fun h1 tk1 q b ne far ext tab hit => ?_)⟩
  · exact absurd (far.lt H (by omega)) (by omega)
  dsimp only
  obtain ⟨ps1, hP1, _⟩ := tab.ps
  obtain ⟨F1, N1⟩ := after_ext F N ext hP1
  clear F N hT
  iterate 7 (walk1 <;> try dsimp only)
  rename_i h2 F2 N2 tab2 K2
  replace hit := K2 _ _ _ hit
  obtain ⟨dq, fdq, slq, hshq, tkq, nq, spq, cbq, csq, pmq, c2q, ctvq, t1q, t2q, quq, a1, a2, a3, a4, a5, a6, a7⟩ := id hit
  refine fn_truthy a1 rfl ?_
  simp only [Bool.not_true, Bool.false_eq_true, if_false]
  refine wpAny_execs_nil ?_
  dsimp only
  iterate 6 (walk1 <;> try dsimp only)
  rename_i h3 F3 N3 tab3 K3
  replace hit := K3 _ _ _ hit
  clear K2 K3 a1 a2 a3 a4 a5 a6 a7
  refine span_stmt (by exact hh) hroom (B.keeps F3.keep) F3 N3 tab3 hLb hit (by rfl) (fun h4 tk4 t1 t2 F4 N4 tab4 K4 => ?_) (by rfl) (by rfl) (by rfl) (by rfl) (by decide) (by rfl)
  replace hit := K4 _ _ _ hit
  clear K4 F3 N3 tab3
  dsimp only
  refine wpAny_execs_cons (While_invH (s := ⟨h4, _, _, _, _⟩) (fun n h => ∃ (m : Str → Option Value) (ps' : Array Value) (q : Addr) (i j : Nat) (t1 t2 : Tok) (rs : List (Nat × Nat)), Fr h₀ L h m ∧ News h₀ L h [(P, tabObj ps')] ∧ TabOk h (lamQual qual) P ∧ HitAt bad h q i j ∧
    m "prog" = some (.ref pr) ∧ m "chars" = some (.str row t) ∧ m "col" = some (.int col t') ∧ m "m" = some (.ref q) ∧ m "i" = some (.int i t1) ∧ m "j" = some (.int j t2) ∧ Road 7 (okOf row mod) i rs ∧ i < 7 ∧ IsFar 7 (okOf row mod) i j ∧ n = 7 - i ∧
    ((m "found" = some .none ∧ i = 0) ∨ ∃ (qf : Addr) (i' : Nat) (rs' : List (Nat × Nat)), m "found" = some (.ref qf) ∧ HitAt bad h qf i' i ∧ Road 7 (okOf row mod) i' rs' ∧ i' < 7 ∧ IsFar 7 (okOf row mod) i' i ∧ i ≤ col)) (n₀ := 7)
    ⟨_, ps1, q, 0, b, t1, t2, [], F4, N4, tab4, hit, rfl, rfl, rfl, rfl, rfl, rfl, .nil, by omega, far, rfl, .inl ⟨rfl, rfl⟩⟩ ?_ PassesOwn.never)
  clear F4 N4 tab4 hit far ne
  rintro n h5 tk5 ⟨m, ps5, q, i, j, t1, t2, rs, F5, N5, tab5, hit, m1, m2, m3, m4, m5, m6, road, hi7, far, rfl, hfound⟩
  have hij := far.lt H hi7
  have hexit : ∀ tk', col < j → wpAny (model PR w) (A.deeper (srEnv L)) (execs [Stmt.Return (some (Expr.Name (Str.ofString "found") { line := 16, col := 11, endLine := 16, endCol := 16 })) { line := 16, col := 4, endLine := 16, endCol := 16 }] (srEnv L)) Q (fun _ _ => False) { s with heap := h5, toks := tk' } := by
    intro tk' hlt
    rcases hfound with ⟨hf, hi0⟩ | ⟨qf, i', rs', hf, hitf, rf, hi', ff, hle⟩
    · subst hi0
      exact wpAny_execs_cons (wpAny_Return_some (nameX_L (s := ⟨h5, _, _, _, _⟩) F5 hf (hN h5 _ j m ps5 F5 N5 tab5 far hlt) (by rfl) (by rfl) (by decide)))
    · exact wpAny_execs_cons (wpAny_Return_some (nameX_L (s := ⟨h5, _, _, _, _⟩) F5 hf (hS' h5 _ qf i' i rs' m ps5 F5 N5 tab5 hitf rf hi' ff hle (.inr fun b fb => by rw [fb.uniq H far]; exact hlt)) (by rfl) (by rfl) (by decide)))
  iterate 12 (walk1 <;> try dsimp only)
  rotate_left
  · rw [if_neg (by decide)]
    exact hexit _ (by omega)
  iterate 2 (walk1 <;> try dsimp only)
  rotate_left
  · rw [if_neg (by decide)]
    exact hexit _ (by omega)
  walk1
  rw [if_pos rfl]
  clear hexit
  iterate 13 (walk1 <;> try dsimp only)
  · exfalso; omega
  refine wpAny_execs_nil ?_
  dsimp only
  rename_i h6 F6 N6 tab6 K6 _
  replace hfound := trivial
  replace hit := K6 _ _ _ hit
  clear K6
  iterate 4 (walk1 <;> try dsimp only)
  refine fn_method (F6.keep _ _ g1) (F6.keep _ _ g2) look_search ?_
  try dsimp only
  refine callWith_F ⟨_, _, _, _, F6.keep _ _ e1⟩ ?_
  iterate 5 (walk1 <;> try dsimp only)
  refine ⟨⟨_, _, _, _, F6.keep _ _ e1⟩, wpAny_call (se_spec (st := j) (hbad' F6) hroom (B.keeps F6.keep) (hS.mono F6.keep) tab6 hrow (by omega) (.inl rfl) (fun farj h7 tk7 ext tab => ?_) fun h7 tk7 q' b' ne' far' ext tab hit' => ?_)⟩
  · have hj7 : j = 7 := by
      rcases Nat.lt_or_ge j 7 with z | z
      · exact absurd (farj.lt H z) (by omega)
      · have := far.2.1; omega
    obtain ⟨ps7, hP7, _⟩ := tab.ps
    obtain ⟨F7, N7⟩ := after_ext F6 N6 ext hP7
    replace hit := hit.keeps ext hPb
    clear F6 N6
    dsimp only
    iterate 14 (walk1 <;> try dsimp only)
    rename_i h8 F8 N8 tab8 K8
    exact hS' h8 _ q i j rs _ ps7 F8 N8 tab8 (K8 _ _ _ hit) road hi7 far (by omega) (.inl hj7)
  · dsimp only
    obtain ⟨ps7, hP7, _⟩ := tab.ps
    obtain ⟨F7, N7⟩ := after_ext F6 N6 ext hP7
    replace hit := hit.keeps ext hPb
    clear F6 N6
    iterate 7 (walk1 <;> try dsimp only)
    rename_i h8 F8 N8 tab8 K8
    replace hit := K8 _ _ _ hit
    replace hit' := K8 _ _ _ hit'
    have ht : ∃ o, h8.get? q' = some o ∧ o.cls = .type "function" := by
      obtain ⟨dq, fdq, slq, hshq, tkq, nq, spq, cbq, csq, pmq, c2q, ctvq, t1q, t2q, quq, a1, _⟩ := hit'
      exact ⟨_, a1, rfl⟩
    obtain ⟨oq, a1, ac⟩ := ht
    refine fn_truthy a1 ac ?_
    simp only [Bool.not_true, Bool.false_eq_true, if_false]
    refine wpAny_execs_nil ?_
    dsimp only
    refine wpAny_execs_cons (span_stmt (by exact hh) hroom (B.keeps F8.keep) F8 N8 tab8 hLb hit' (by exact if_pos rfl) (fun h9 tk9 t3 t4 F9 N9 tab9 K9 => ?_) (by rfl) (by rfl) (by rfl) (by rfl) (by decide) (by rfl))
    have hj7 : j < 7 := by have := far'.1; have := far'.2.1; omega
    refine wpAny_execs_nil ⟨7 - j, h9, tk9, rfl, by omega, _, ps7, q', j, b', t3, t4, _, F9, N9, tab9, K9 _ _ _ hit', ?_, ?_, ?_, ?_, ?_, ?_, .snoc road hi7 far, hj7, far', rfl, .inr ⟨q, i, rs, ?_, K9 _ _ _ hit, road, hi7, far, by omega⟩⟩
    all_goals ((try dsimp only); repeat (first | with_reducible assumption | exact if_pos rfl | refine Eq.trans (if_neg (by decide)) ?_))
end
end Mine

namespace Mine
set_option maxRecDepth 100000
set_option maxHeartbeats 1000000
theorem markSr2 : True := by w_top off; trivial
open PySem PySem.W PyProof.Rows PySem.Calls PySem.Spec

theorem Srch.off {h : Heap} {fs P : Addr} {mod qual q' : Str} (x : Srch h fs P mod qual) (t : TabOk h q' P) : Srch (off h P) fs P mod qual := by
  obtain ⟨ps, hP, hn⟩ := t.ps
  obtain ⟨cm, c, name, dt, doc, pm, ctv, tm, t0, e1, e2, ⟨c', oc, vs, tt, g1, g2, g3, g4⟩, ⟨o, vs', file, tf, flags, tg, inF, text, tt', f1, f2, f3, f4, f5, f6, f7, f8, f9, ne⟩, ⟨o5, e5, f5'⟩⟩ := x
  refine ⟨cm, c, name, dt, doc, pm, ctv, tm, t0, off_get e1 ?_, off_get e2 ?_, ⟨c', oc, vs, tt, g1, off_get g2 ?_, g3, g4⟩, ⟨o, vs', file, tf, flags, tg, inF, text, tt', off_get f1 ne, f2, f3, f4, f5, f6, f7, f8, f9, ne⟩, ⟨o5, off_get e5 ?_, f5'⟩⟩
  · intro z; rw [z, hP] at e1; cases e1
  · intro z; rw [z, hP] at e2; cases e2
  · intro z; rw [z, hP] at g2; cases g2; cases g3; exact hn _ _ g4
  · intro z; rw [z, hP] at e5; cases e5; cases f5'
theorem ProgAt.off {h : Heap} {pr fs P : Addr} {q' : Str} (x : ProgAt h pr fs) (t : TabOk h q' P) : ProgAt (off h P) pr fs := by
  obtain ⟨ps, hP, hn⟩ := t.ps
  obtain ⟨d, fd, sl, hsh, tk, n, e1, e2⟩ := x
  exact ⟨d, fd, sl, hsh, tk, n, off_get e1 (fun z => by rw [z, hP] at e1; cases e1), off_get e2 (fun z => by rw [z, hP] at e2; cases e2)⟩

theorem sr_spec {w : World} {A : Around} {R : Result → Shared → Prop} {s : Shared} {mg mb : Str → Option Value} {pr fs P : Addr} {row mod qual : Str} {col : Nat} {t t' : Tok} {extra : List Addr}
    (hh : A.handled = none) (hroom : A.depth + 1 < recursionLimit) (B : Base w mg mb s.heap) (hS : Srch s.heap fs P mod qual) (hT : TabOk s.heap (lamQual qual) P) (hG : ProgAt s.heap pr fs) (hrow : row.length = 7) (H : Okay 7 (okOf row mod)) (hcol : col ≤ 7)
    (hex : ∀ x ∈ extra, ∃ o, s.heap.get? x = some o ∧ ∀ vs, o.data ≠ .fields vs)
    (hN : ∀ h' tk, Ext P s.heap h' → TabOk h' (lamQual qual) P → Last 7 (okOf row mod) col 0 [] → R (.ok (.ret .none)) { s with heap := h', toks := tk })
    (hS' : ∀ h' tk q i a rs, Ext P s.heap h' → TabOk h' (lamQual qual) P → HitAt (P :: extra) h' q (i : Nat) (a : Nat) → Road 7 (okOf row mod) i rs → i < 7 → IsFar 7 (okOf row mod) i a → Last 7 (okOf row mod) col a (rs ++ [(i, a)]) → R (.ok (.ret (.ref q))) { s with heap := h', toks := tk }) :
    codeAny (model PR w) A (.call (.ref 21) ⟨[.ref pr, .str row t, .int col t'], []⟩) R s := by
  obtain ⟨ps, hP, hn⟩ := hT.ps
  refine sr_enter (by omega) B hP fun h₁ tk F N => ?_
  have hroom' : (A.deeper (srEnv s.heap.objs.size)).depth < recursionLimit := by rw [depth_deeper]; exact hroom
  have hT₁ : TabOk h₁ (lamQual qual) P := by
    rcases hT with z | ⟨c1, c2, z, z1, z2⟩
    · rw [hP] at z; cases z; exact .inl (N.get (.head _))
    · have k : ∀ {c : Addr} {q : Str}, s.heap.CodeRec (.ref c) q → h₁.CodeRec (.ref c) q := fun ⟨c', oc, vs, t, g1, g2, g3, g4⟩ =>
        ⟨c', oc, vs, t, g1, F.keep _ _ (off_get g2 (fun y => by rw [y, hP] at g2; cases g2; cases g3; exact hn _ _ g4)), g3, g4⟩
      rw [hP] at z; cases z; exact .inr ⟨c1, c2, N.get (.head _), k z1, k z2⟩
  refine sr_body (bad := P :: s.heap.objs.size :: extra) hh hroom' (B.off hP) F N (hS.off hT) hT₁ (hG.off hT) hrow H hcol (.tail _ (.head _)) (.head _) (fun x hx => ?_) (fun h' tk b m ps' F' N' tab far hlt => ?_) (fun h' tk q i a rs m ps' F' N' tab hit road hi far hle hor => ?_)
  · rcases List.mem_cons.mp hx with e | hx
    · exact .inl e
    · rcases List.mem_cons.mp hx with e | hx
      · exact .inr (.inl e)
      · obtain ⟨o, e, ne⟩ := hex x hx
        exact .inr (.inr ⟨o, off_get e (fun z => by rw [z, hP] at e; cases e; exact ne _ rfl), ne⟩)
  · exact hN h' tk (ext_of_fr F') tab ⟨.nil, Nat.zero_le _, .inr fun b' fb => by rw [fb.uniq H far]; exact hlt⟩
  · refine hS' h' tk q i a rs (ext_of_fr F') tab (hit.fewer fun y hy => ?_) road hi far ⟨.snoc road hi far, hle, hor⟩
    rcases List.mem_cons.mp hy with e | hy
    · rw [e]; exact .head _
    · exact .tail _ (.tail _ hy)
end Mine

namespace Mine
set_option maxRecDepth 100000
set_option maxHeartbeats 1000000
theorem markFi : True := by w_top off; trivial
open PySem PySem.W PyProof.Rows PySem.Calls PySem.Spec
theorem fillFi : (fun (_ : PySem.W.OpenLaw) (_ : Params → Frag) => True) PySem.Challenge.rw_pg0001_01 Mine.hd.heap_39 := by k_fill; trivial

def fiParts : Arguments × List Stmt × Scope × Pos := partsOf (topDef 4)
def fiBody : List Stmt := fiParts.2.1
def fiScope : Scope := fiParts.2.2.1
abbrev fiEnv (L : Addr) : Env := envX "_law_finder" fiScope L 35 (.ref 34) [("model", L + 1)]

/-- a def in a body, with a default: the new code's own table is told too -/
theorem fi_makeTail {M : Model} {A : Around} {E : Value → Shared → Prop} {s : Shared} {name qual : Str} {params : Arguments} {body : List Stmt} {scope : Scope} {env : Env} {c P : Addr} {ps : Array Value} {pos : Pos} {firstLine : Nat} {mg : Str → Option Value}
    {q : Str × Addr} {r : List (Str × Addr)} {dV : Value} {Q : Value → Shared → Prop} (hcl : closureFor scope env = pure (q :: r)) (hge0 : env.globals = mainGlobals) (hg : s.heap.Ns mainGlobals mg) (hcode : env.code = .ref c) (C : CodeHd s.heap c P) (hP : s.heap.get? P = some (tabObj ps)) (ht : TriplesOk ps.toList)
    (hnf : codeAmong pos ps.toList = none) (hgP : mainGlobals ≠ P) (hb : s.heap.BuiltinsAt mg P) (hdoc : docOf body = none)
    (h : ∀ c' P' ctv h' tk, Ext P s.heap h' → s.heap.objs.size ≤ c' → s.heap.objs.size ≤ P' → h'.CodeRec (.ref c') qual → CodeHd h' c' P' → h'.get? P' = some (tabObj #[]) → h'.get? P = some (tabObj (ps ++ #[rawInt pos.line, rawInt pos.col, .ref c'])) →
      Q (.ref h'.objs.size) { s with heap := h'.push (kdv_obj name qual params (.stmts body) scope (q :: r) dV .none ((mg "__name__").getD .none) c' ctv), toks := tk }) :
    wpAny M A (makeTail name qual params (.stmts body) scope env dV .none none pos firstLine) Q E s := by
  obtain ⟨bm, ob, hbm, hne0, _, hneP, hbo, hcls, hdict, hdata⟩ := hb
  unfold makeTail
  rw [hcl, hge0]
  refine wpAny_bind (wpAny_pure ?_)
  simp only [List.isEmpty_cons, Bool.false_eq_true, if_false]
  refine wpAny_bind (wpAny_newTextTuple ?_)
  refine wpAny_bind (wpAny_functionCodeX hcode ((C.keeps fun b o e => Heap.get?_push_of_some _ e).code (Heap.get?_push_of_some _ hP) ht) ((C.keeps fun b o e => Heap.get?_push_of_some _ e).tab (Heap.get?_push_of_some _ hP)) hnf fun c' h' tk hx hge hlt _ hrec htb hnew => ?_)
  obtain ⟨P', hP', hcodeP, htabP⟩ := hnew
  have hg' := (hg.push _).extBut hx hgP
  have hx' : Ext P s.heap h' := fun b o hb' e => hx b o hb' (Heap.get?_push_of_some _ e)
  have sz : ∀ {x : Nat} {o : Obj}, (s.heap.push o).objs.size ≤ x → s.heap.objs.size ≤ x := fun z => Nat.le_trans (by rw [Heap.size_push]; omega) z
  refine wpAny_bind (wpAny_builtinsFor hg' hbm hne0 (hx' _ _ hneP hbo) hcls hdict hdata ?_)
  refine wpAny_bind (wpAny_nsGet hg' ?_)
  exact wpAny_bind (by simp only [hdoc]; exact wpAny_pure (wpAny_newObj_type (h c' P' _ h' tk hx' (sz hge) (sz hP') hrec (CodeHd.of hcodeP htabP) htabP.2 htb.2) (by size_fits)))

theorem fi_enter {w : World} {A : Around} {R : Result → Shared → Prop} {s : Shared} {mg mb : Str → Option Value} {P : Addr} {ps : Array Value} {v : Value}
    (hroom : A.depth < recursionLimit) (B : Base w mg mb s.heap) (hP : s.heap.get? P = some (tabObj ps))
    (h : ∀ h₁ tk o₁, Fr (off s.heap P) s.heap.objs.size h₁ (fun _ => none) → News (off s.heap P) s.heap.objs.size h₁ [(P, tabObj ps), (s.heap.objs.size + 1, o₁)] → o₁.data = .cell (some v) →
      wpAny (model PR w) (A.deeper (fiEnv s.heap.objs.size)) (execs fiBody (fiEnv s.heap.objs.size)) (fun fl s' => R (.ok (.ret (match fl with | .ret v => v | _ => .none))) s') (fun _ _ => False) { s with heap := h₁, toks := tk }) :
    codeAny (model PR w) A (.call (.ref 35) ⟨[v], []⟩) R s := by
  obtain ⟨loose, mean, T⟩ := B.T
  have X : (hd.heap_39 w.params).In s.heap := B.K
  refine codeAny_call_function hroom (X 35 _ (by k_is)) rfl (by rfl) (by rfl) rfl (codeRec_of X (by k_is)) ?_
  have hsc : fiScope.names = ([((Str.ofString "model"), .cell), (Str.ofString "_law_search", .local), (Str.ofString "prog", .local)] : List (Str × NameKind)) := by rfl
  have hPL : P < s.heap.objs.size := Heap.lt_size hP
  show wpAny _ _ (pure [((Str.ofString "model"), v)]) _ _ _
  refine wpAny_pure ?_
  show wpAny _ _ (newFunctionEnv fiScope mainGlobals [] [((Str.ofString "model"), v)] ("_law_finder" ++ ".<locals>.") (some 35) (.ref 34) none builtinsNs) _ _ _
  simp only [newFunctionEnv, Option.isSome_none, Bool.false_eq_true, if_false, hsc]
  refine wpAny_bind (wpAny_alloc ?_)
  simp only [List.forIn_cons, List.forIn_nil, show ((NameKind.local == NameKind.cell) = false) from rfl, show ((NameKind.cell == NameKind.cell) = true) from rfl, if_true, Bool.false_eq_true, if_false, pure_bind, bind_assoc]
  refine wpAny_bind (wpAny_alloc ?_)
  have z1 : (s.heap.push { cls := Value.type "frame", data := Data.dict #[] }).objs.size = s.heap.objs.size + 1 := Heap.size_push ..
  simp only [z1]
  generalize hH : (s.heap.push { cls := Value.type "frame", data := Data.dict #[] }).push { cls := Value.type "cell", data := Data.cell none } = H
  have hk : ∀ b o, s.heap.get? b = some o → H.get? b = some o := fun b o e => hH ▸ Heap.get?_push_of_some _ (Heap.get?_push_of_some _ e)
  have F : Fr (off s.heap P) s.heap.objs.size H (fun _ => none) := by
    refine ⟨?_, fun b o e => hk b o (of_off e), Nat.le_of_eq off_size⟩
    rw [← hH]; exact (Heap.Ns.new s.heap (.type "frame")).push _
  have nn : ∀ b, s.heap.objs.size ≤ b → (off s.heap P).get? b = none := fun b hb => Heap.get?_none_of_le (by rw [off_size]; exact hb)
  have N : News (off s.heap P) s.heap.objs.size H [(P, tabObj ps), (s.heap.objs.size + 1, { cls := Value.type "cell", data := Data.cell none })] := by
    refine List.forall_mem_cons.mpr ⟨⟨hk _ _ hP, Nat.ne_of_lt hPL, off_none⟩, List.forall_mem_cons.mpr ⟨⟨?_, Nat.ne_of_gt (Nat.lt_succ_self _), nn _ (Nat.le_succ _)⟩, List.forall_mem_nil _⟩⟩
    rw [← hH]
    have := Heap.get?_push_size (s.heap.push { cls := Value.type "frame", data := Data.dict #[] }) (o := { cls := Value.type "cell", data := Data.cell none }) rfl
    rw [z1] at this; exact this
  clear hH
  refine wpAny_bind (storeX_C (cn := "_law_finder") (cs := fiScope) (a := 35) (ccd := .ref 34) (s := ⟨H, _, _, _, _⟩) F N (c := s.heap.objs.size + 1) (o := { cls := Value.type "cell", data := Data.cell none }) (by rfl) (UpdF.tail ?_ (UpdF.head (List.forall_mem_nil _))) (by rfl) (fun h'' o' F'' N'' hd => ?_) (by rfl) (by rfl))
  · exact Nat.ne_of_lt (Nat.lt_succ_of_lt hPL)
  refine wpAny_pure ⟨T.nolimit.keeps fun b o e => ?_, codeAny_func ?_⟩
  · by_cases q : b = P
    · subst q; rw [hP] at e; cases e; exact (N'' _ (.head _)).1
    · exact F''.keep b o (off_get e q)
  · exact wpAny_mono (h h'' _ o' F'' N'' hd) (fun _ _ x => x) fun _ _ x => x.elim
end Mine

namespace Mine
set_option maxRecDepth 100000
set_option maxHeartbeats 1000000
theorem markFi2 : True := by w_top off; trivial
open PySem PySem.W PyProof.Rows PySem.Calls PySem.Spec
theorem fillFi2 : (fun (_ : PySem.W.OpenLaw) (_ : Params → Frag) => True) PySem.Challenge.rw_pg0001_01 Mine.hd.heap_39 := by k_fill; trivial

theorem builtinsAt_of {p : Program} {loose : List Str} {mean : ExcName → Option Value} {mg mb : Str → Option Value} {h₀ h : Heap} {P : Addr} {ps : Array Value} (T : Top p loose mean mg mb h₀) (k : ∀ b o, h₀.get? b = some o → h.get? b = some o) (hm : h.get? P = some (tabObj ps)) : h.BuiltinsAt mg P := by
  obtain ⟨bm, ob, b1, b2, b3, b4, b5, b6⟩ := T.bmain
  have hbP : bm ≠ P := fun q => by
    have e := k _ _ b3
    rw [q, hm] at e; cases e; cases b4
  have hbG : bm ≠ mainGlobals := fun q => by
    obtain ⟨o, es, ep, e, hd, _⟩ := T.g
    rw [q, e] at b3; cases b3; rw [hd] at b6; cases b6
  exact ⟨bm, ob, b1, b2, hbG, hbP, k _ _ b3, b4, b5, b6⟩

theorem fi_body {w : World} {A : Around} {h₀ h : Heap} {s : Shared} {L : Addr} {mg mb : Str → Option Value} {mod : Str} {tm : Tok} {o₁ : Obj} {tk : Nat} {Q : Flow → Shared → Prop}
    (B : Base w mg mb h₀) (C : CodeHd h₀ 34 30) (F : Fr h₀ L h (fun _ => none)) (N : News h₀ L h [(30, tabObj #[]), (L + 1, o₁)]) (d1 : o₁.data = .cell (some (.str mod tm))) (hPL : @LT.lt Nat _ 30 L)
    (hQ : ∀ h' tk (objs : List (Addr × Obj)) pr fs P qual, (∀ b o, h₀.get? b = some o → h'.get? b = some o) → (∃ ps, h'.get? 30 = some (tabObj ps)) → (∀ p ∈ objs, h'.get? p.1 = some p.2 ∧ @LT.lt Nat _ L p.1 ∧ p.1 ≠ P) →
      (∀ h2 : Heap, (∀ p ∈ objs, h2.get? p.1 = some p.2) → Srch h2 fs P mod qual ∧ ProgAt h2 pr fs) → h'.get? P = some (tabObj #[]) → @LT.lt Nat _ L P → Q (.ret (.ref pr)) { s with heap := h', toks := tk }) :
    wpAny (model PR w) A (execs fiBody (fiEnv L)) Q (fun _ _ => False) { s with heap := h, toks := tk } := by
  have X : (hd.heap_39 w.params).In h₀ := B.K
  obtain ⟨loose, mean, T⟩ := B.T
  delta fiBody
  with_unfolding_all (conv => arg 3; arg 1; whnf)
  iterate 6 (walk1 <;> try dsimp only)
  rename_i dt h1 F1 N1 l1
  have n30 := N1 _ (.tail _ (.head _))
  refine fi_makeTail (by exact rfl) rfl (T.g.keeps F1.keep) rfl (C.keeps F1.keep) n30.1 trivial rfl (by decide) (builtinsAt_of T F1.keep n30.1) (by rfl) fun c' P' ctv h2 tk2 ext hc' hP' hrec hCd hT' h30 => ?_
  obtain ⟨_, oc, vs, tq, e0, hoc, hdc, hv1⟩ := hrec
  cases e0
  have F2 : Fr h₀ L h2 (fun _ => none) := fr_turn F1 (fun b o e ne => ext b o ne e) n30.2.1 n30.2.2
  have hL1 : @LT.lt Nat _ L h1.objs.size := F1.ns.lt
  have hc2 : @LE.le Nat _ h1.objs.size c' := hc'
  have hP2 : @LE.le Nat _ h1.objs.size P' := hP'
  have fresh : ∀ b : Addr, @LT.lt Nat _ L b → h₀.get? b = none := fun b hb => Heap.get?_none_of_le (Nat.le_trans F1.above (Nat.le_of_lt hb))
  have hdtlt : @LT.lt Nat _ dt h1.objs.size := Heap.lt_size (N1.get (.head _))
  have hcelt : @LT.lt Nat _ (L + 1) h1.objs.size := Heap.lt_size (N1.get (.tail _ (.tail _ (.head _))))
  have hPlt : @LT.lt Nat _ P' h2.objs.size := Heap.lt_size hT'
  have hclt : @LT.lt Nat _ c' h2.objs.size := Heap.lt_size hoc
  have N2 : News h₀ L h2 [(c', oc), (P', tabObj #[]), (dt, kdv_tup [Value.int 0 tk]), (30, tabObj (#[] ++ #[rawInt (23 : Nat), rawInt (4 : Nat), .ref c'])), (L + 1, o₁)] := by
    refine List.forall_mem_cons.mpr ⟨⟨hoc, Nat.ne_of_gt (by omega), fresh _ (by omega)⟩, List.forall_mem_cons.mpr ⟨⟨hT', Nat.ne_of_gt (by omega), fresh _ (by omega)⟩, List.forall_mem_cons.mpr ⟨⟨ext _ _ (by k_ne) (N1 _ (.head _)).1, (N1 _ (.head _)).2⟩, List.forall_mem_cons.mpr ⟨⟨h30, n30.2⟩, List.forall_mem_cons.mpr ⟨⟨ext _ _ (by k_ne) (N1 _ (.tail _ (.tail _ (.head _)))).1, (N1 _ (.tail _ (.tail _ (.head _)))).2⟩, List.forall_mem_nil _⟩⟩⟩⟩⟩
  generalize hfo : kdv_obj (Str.ofString "_law_search") _ _ _ _ _ _ _ _ _ _ = fo
  have F3 := F2.push fo
  have N3 := N2.push F2 fo (by rw [← hfo]; rfl)
  generalize h2.push fo = h3 at F3 N3 ⊢
  generalize hfs : h2.objs.size = fs at *
  clear F2 N2 F1 N1 ext
  dsimp only
  iterate 11 (walk1 <;> try dsimp only)
  rename_i f1 cc oc1 vs1 t1 _ _ _ _ _ _ _ h4 F4 N4
  have hf1 := N4 _ (.head _)
  refine fn_set hf1.1 look_search fun d h5 hk hd hq hdd => ?_
  have F5 := fr_turn F4 hk hf1.2.1 hf1.2.2
  iterate 3 (walk1 <;> try dsimp only)
  have g := fun (a : Addr) (o : Obj) (e : h4.get? a = some o) (n : a ≠ f1) => hk a o e n
  have hL4 : @LT.lt Nat _ L h4.objs.size := F4.ns.lt
  have hd' : @LE.le Nat _ h4.objs.size d := hd
  have hfsz : @LT.lt Nat _ f1 h4.objs.size := Heap.lt_size hf1.1
  have k1 := g _ _ (N4.get (.tail _ (.tail _ (.head _)))) (by k_ne)
  have k2 := g _ _ (N4.get (.tail _ (.tail _ (.tail _ (.head _))))) (by k_ne)
  have k3 := g _ _ (N4.get (.tail _ (.tail _ (.tail _ (.tail _ (.head _)))))) (by k_ne)
  have k4 := g _ _ (N4.get (.tail _ (.tail _ (.tail _ (.tail _ (.tail _ (.head _))))))) (by k_ne)
  have k5 := g _ _ (N4.get (.tail _ (.tail _ (.tail _ (.tail _ (.tail _ (.tail _ (.head _)))))))) (by k_ne)
  have k6 := g _ _ (N4.get (.tail _ (.tail _ (.tail _ (.tail _ (.tail _ (.tail _ (.tail _ (.head _))))))))) (by k_ne)
  obtain ⟨o, vs', file, tf, flags, tg, inF, text, tt', q1, q2, q3, q4, q5, q6, q7, q8, q9, qne⟩ := hCd
  rw [hoc] at q1
  cases q1
  have hdt : @LT.lt Nat _ L dt := by omega
  have qne' : @Ne Nat c' P' := qne
  generalize hof : (Obj.mk (Value.type "function") (some d) (Data.func _) #[]) = of at hq
  generalize hod : dictOf [_] 1 = od at hdd
  generalize hot : kdv_tup [Value.int 0 _] = ot at k4
  refine hQ h5 _ [(f1, of), (d, od), (fs, fo), (dt, ot), (c', oc), (L + 1, o₁)] f1 fs P' (qualnameIn (fiEnv L) "_law_search" "_law_search") F5.keep ⟨_, k5⟩ ?_ (fun h2 hm => ⟨?_, ?_⟩) k3 (by omega)
  · refine List.forall_mem_cons.mpr ⟨⟨hq, by dsimp only; omega, by k_ne⟩, List.forall_mem_cons.mpr ⟨⟨hdd, by dsimp only; omega, by k_ne⟩, List.forall_mem_cons.mpr ⟨⟨k1, by dsimp only; omega, by k_ne⟩, List.forall_mem_cons.mpr ⟨⟨k4, by dsimp only; omega, by k_ne⟩,
      List.forall_mem_cons.mpr ⟨⟨k2, by dsimp only; omega, by k_ne⟩, List.forall_mem_cons.mpr ⟨⟨k6, by dsimp only; omega, by k_ne⟩, List.forall_mem_nil _⟩⟩⟩⟩⟩⟩
  · have m1 := hm (fs, fo) (.tail _ (.tail _ (.head _)))
    have m2 := hm (c', oc) (.tail _ (.tail _ (.tail _ (.tail _ (.head _)))))
    have m3 := hm (dt, ot) (.tail _ (.tail _ (.tail _ (.head _))))
    rw [← hfo] at m1
    rw [← hot] at m3
    exact ⟨L + 1, c', _, dt, _, _, _, tm, _, m1, m3, ⟨c', oc, vs, tq, rfl, m2, hdc, hv1⟩, ⟨oc, vs', file, tf, flags, tg, inF, text, tt', m2, q2, q3, q4, q5, q6, q7, q8, q9, qne⟩, ⟨o₁, hm (L + 1, o₁) (.tail _ (.tail _ (.tail _ (.tail _ (.tail _ (.head _)))))), d1⟩⟩
  · have m1 := hm (f1, of) (.head _)
    have m2 := hm (d, od) (.tail _ (.head _))
    rw [← hof] at m1
    rw [← hod] at m2
    exact ⟨d, _, _, _, _, _, m1, m2⟩

theorem fi_spec {w : World} {A : Around} {R : Result → Shared → Prop} {s : Shared} {mg mb : Str → Option Value} {mod : Str} {tm : Tok}
    (hroom : A.depth < recursionLimit) (B : Base w mg mb s.heap) (C : CodeHd s.heap 34 30) (hP : s.heap.get? 30 = some (tabObj #[]))
    (hQ : ∀ h' tk (objs : List (Addr × Obj)) pr fs P qual, Ext 30 s.heap h' → (∃ ps, h'.get? 30 = some (tabObj ps)) → (∀ p ∈ objs, h'.get? p.1 = some p.2 ∧ s.heap.get? p.1 = none ∧ p.1 ≠ P) →
      (∀ h2 : Heap, (∀ p ∈ objs, h2.get? p.1 = some p.2) → Srch h2 fs P mod qual ∧ ProgAt h2 pr fs) → h'.get? P = some (tabObj #[]) → s.heap.get? P = none → R (.ok (.ret (.ref pr))) { s with heap := h', toks := tk }) :
    codeAny (model PR w) A (.call (.ref 35) ⟨[.str mod tm], []⟩) R s := by
  refine fi_enter hroom B hP fun h₁ tk o₁ F N d1 => ?_
  have C' : CodeHd (off s.heap 30) 34 30 := by
    obtain ⟨o, vs, file, tf, flags, tg, inF, text, tt, f1, f2, f3, f4, f5, f6, f7, f8, f9, ne⟩ := C
    exact ⟨o, vs, file, tf, flags, tg, inF, text, tt, off_get f1 ne, f2, f3, f4, f5, f6, f7, f8, f9, ne⟩
  refine fi_body (B.off hP) C' F N d1 (Heap.lt_size hP) fun h' tk' objs pr fs P qual hk h30 ho hs hT hL => ?_
  exact hQ h' tk' objs pr fs P qual (fun b o n e => hk b o (off_get e n)) h30 (fun p hp => ⟨(ho p hp).1, Heap.get?_none_of_le (Nat.le_of_lt (ho p hp).2.1), (ho p hp).2.2⟩) hs hT (Heap.get?_none_of_le (Nat.le_of_lt hL))
end Mine

namespace Mine
set_option maxRecDepth 100000
theorem markForH : True := by w_top off; trivial
open PySem PySem.W PyProof.Rows PySem.Calls PySem.Spec

/-- a for by what holds of the heap between its turns -/
theorem forLoop_H {prog : Program} {w : World} {A : Around} {E : Value → Shared → Prop} {Q : Flow → Shared → Prop} {s : Shared} {env : Env} {x : Str} {px : Pos} {body : List Stmt} {I : Addr} {fp wr : List Addr} {n : Nat} {P : Nat → Value → Prop} {St : Nat → Heap → Prop}
    (W : Walks prog w A I fp wr n P St) (J : Nat → Heap → Prop) (h0 : St 0 s.heap) (hJ : J 0 s.heap)
    (hw : ∀ i h h', J i h → (∀ b o, b ∉ wr → h.get? b = some o → h'.get? b = some o) → J i h')
    (turn : ∀ i v h tk, i < n → P i v → J i h → St (i + 1) h → wpAny (model prog w) A (storeName env x v) (fun _ s₂ => wpAny (model prog w) A (execs body env) (fun f s₃ => match f with
      | .next | .cont => ∃ h' tk', s₃ = { s with heap := h', toks := tk' } ∧ St (i + 1) h' ∧ J (i + 1) h'
      | .brk => Q .next s₃
      | .ret v => Q (.ret v) s₃) E s₂) E { s with heap := h, toks := tk })
    (done : ∀ h tk, J n h → Q .next { s with heap := h, toks := tk }) (hE : PassesOwn (model prog w) A env E) :
    codeAny (model prog w) A (.forLoop (.Name x px) (.ref I) body [] env) (fun r s' => match r with | .ok f => Q f s' | .error e => cameBackBy (model prog w) A env E e s') s := by
  refine codeAny_forLoop (fun k s' => ∃ h tk i, s' = { s with heap := h, toks := tk } ∧ St i h ∧ J i h ∧ i ≤ n ∧ k = n + 1 - i) ?_ (n + 1) ⟨s.heap, s.toks, 0, rfl, h0, hJ, Nat.zero_le _, rfl⟩
  rintro k s' ⟨h, tk, i, rfl, hst, hj, hi, rfl⟩
  by_cases hlt : i < n
  · refine W.item i _ _ _ hlt hst fun v h₁ tk₁ hP hst₁ hk₁ => ?_
    refine wpAny_passesOwn hE (wpAny_assign_Name (wpAny_mono (turn i v h₁ tk₁ hlt hP (hw i h h₁ hj hk₁) hst₁) (fun _ s₂ h₂ => ?_) fun _ _ e => e))
    refine wpAny_passesOwn hE (wpAny_mono h₂ (fun f s₃ h₃ => ?_) fun _ _ e => e)
    cases f with
    | ret v => exact h₃
    | brk => exact h₃
    | next => obtain ⟨h', tk', rfl, a, b⟩ := h₃; exact ⟨n + 1 - (i + 1), by omega, h', tk', i + 1, rfl, a, b, hlt, rfl⟩
    | cont => obtain ⟨h', tk', rfl, a, b⟩ := h₃; exact ⟨n + 1 - (i + 1), by omega, h', tk', i + 1, rfl, a, b, hlt, rfl⟩
  · have hin : i = n := by omega
    subst hin
    exact W.done _ _ _ hst fun h₁ tk₁ hk₁ => wpAny_execs_nil (done h₁ tk₁ (hw i h h₁ hj hk₁))
end Mine

namespace Mine
set_option maxRecDepth 100000
theorem markCompI : True := by w_top off; trivial
open PySem PySem.W PyProof.Rows PySem.Calls PySem.Spec

section
variable {prog : Program} {w : World} {A : Around} {s : Shared} {h₀ : Heap} {L : Addr} {m : Str → Option Value} {env : Env} {ct elt : Expr} {x : Str} {scope : Scope} {cl : List (Str × Addr)} {S : List (Addr × Obj) → Prop} {P : Nat → Value → Prop}
  {Fin : List Value → List (Addr × Obj) → Prop} {n : Nat} {news : List (Addr × Obj)}

/-- a comprehension with a test, by what holds of the list so far -/
theorem compT_ind (Inv : Nat → List Value → Prop) (hS : S news) (h0 : Inv 0 [])
    (turn : ∀ i ys v I oI C oC D m₂ h tk (E' : Value → Shared → Prop), i < n → Inv i ys → P i v → LCg.NsObj oC m₂ → m₂ x = some v → Fr h₀ L h m → News h₀ L h ((I, oI) :: (C, oC) :: (D, LCg.lst ys) :: news) → LCg.Off3 I C D news → ((@Ne Nat I C) ∧ (@Ne Nat I D) ∧ (@Ne Nat C D)) →
      wpAny (model prog w) A (isTrue ct (compEnvC scope cl C env) (eval ct (compEnvC scope cl C env))) (fun ok s' => if ok = true then
        wpAny (model prog w) A (eval elt (compEnvC scope cl C env)) (fun y s₂ => ∃ h' tk', s₂ = { s with heap := h', toks := tk' } ∧ Fr h₀ L h' m ∧ News h₀ L h' ((I, oI) :: (C, oC) :: (D, LCg.lst ys) :: news) ∧ Inv (i + 1) (ys ++ [y])) E' s'
        else ∃ h' tk', s' = { s with heap := h', toks := tk' } ∧ Fr h₀ L h' m ∧ News h₀ L h' ((I, oI) :: (C, oC) :: (D, LCg.lst ys) :: news) ∧ Inv (i + 1) ys) E' { s with heap := h, toks := tk })
    (fin : ∀ ys, Inv n ys → Fin ys news) : LCt.CompRestT prog w A h₀ L m env ct elt x scope cl s S P Fin n 0 [] news := by
  have key : ∀ (j i : Nat) (ys : List Value), i + j = n → Inv i ys → LCt.CompRestT prog w A h₀ L m env ct elt x scope cl s S P Fin j i ys news := by
    intro j
    induction j with
    | zero => intro i ys hi hy; have : i = n := (by omega); subst this; exact LCt.CompRestT.zero (fin ys hy)
    | succ j ih =>
      intro i ys hi hy
      refine LCt.CompRestT.succ fun v I oI C oC D m₂ h tk E' hv hC hx F N off ne => ?_
      refine wpAny_mono (turn i ys v I oI C oC D m₂ h tk E' (by omega) hy hv hC hx F N off ne) (fun ok s' hq => ?_) fun _ _ e => e
      cases ok with
      | true =>
        rw [if_pos rfl] at hq ⊢
        refine wpAny_mono hq (fun y s₂ hz => ?_) fun _ _ e => e
        obtain ⟨h', tk', rfl, F', N', hi'⟩ := hz
        exact ⟨h', tk', news, rfl, F', N', off, hS, ih (i + 1) _ (by omega) hi'⟩
      | false =>
        rw [if_neg (by decide)] at hq ⊢
        obtain ⟨h', tk', rfl, F', N', hi'⟩ := hq
        exact ⟨h', tk', news, rfl, F', N', off, hS, ih (i + 1) _ (by omega) hi'⟩
  exact key n 0 [] (by omega) h0

/-- a comprehension without a test -/
theorem comp_ind (Inv : Nat → List Value → Prop) (hS : S news) (h0 : Inv 0 [])
    (turn : ∀ i ys v I oI C oC D m₂ h tk (E' : Value → Shared → Prop), i < n → Inv i ys → P i v → LCg.NsObj oC m₂ → m₂ x = some v → Fr h₀ L h m → News h₀ L h ((I, oI) :: (C, oC) :: (D, LCg.lst ys) :: news) → LCg.Off3 I C D news → ((@Ne Nat I C) ∧ (@Ne Nat I D) ∧ (@Ne Nat C D)) →
      wpAny (model prog w) A (eval elt (compEnvC scope cl C env)) (fun y s₂ => ∃ h' tk', s₂ = { s with heap := h', toks := tk' } ∧ Fr h₀ L h' m ∧ News h₀ L h' ((I, oI) :: (C, oC) :: (D, LCg.lst ys) :: news) ∧ Inv (i + 1) (ys ++ [y])) E' { s with heap := h, toks := tk })
    (fin : ∀ ys, Inv n ys → Fin ys news) : LCg.CompRest prog w A h₀ L m env elt x scope cl s S P Fin n 0 [] news := by
  have key : ∀ (j i : Nat) (ys : List Value), i + j = n → Inv i ys → LCg.CompRest prog w A h₀ L m env elt x scope cl s S P Fin j i ys news := by
    intro j
    induction j with
    | zero => intro i ys hi hy; have : i = n := (by omega); subst this; exact LCg.CompRest.zero (fin ys hy)
    | succ j ih =>
      intro i ys hi hy
      refine LCg.CompRest.succ fun v I oI C oC D m₂ h tk E' hv hC hx F N off ne => ?_
      refine wpAny_mono (turn i ys v I oI C oC D m₂ h tk E' (by omega) hy hv hC hx F N off ne) (fun y s₂ hz => ?_) fun _ _ e => e
      obtain ⟨h', tk', rfl, F', N', hi'⟩ := hz
      exact ⟨h', tk', news, rfl, F', N', off, hS, ih (i + 1) _ (by omega) hi'⟩
  exact key n 0 [] (by omega) h0
end

/-- the items of fs at the places k below i from which the row's stretch to p stands in the model -/
def sel (ok : Nat → Nat → Bool) (fs : List Int) (p i : Nat) : List Int := ((List.range i).filter fun k => ok k p).map fun k => fs.getD k 0
theorem sel_yes {ok : Nat → Nat → Bool} {fs : List Int} {p i : Nat} (h : ok i p = true) : sel ok fs p (i + 1) = sel ok fs p i ++ [fs.getD i 0] := by
  unfold sel; rw [List.range_succ, List.filter_append, List.map_append]; simp [h]
theorem sel_no {ok : Nat → Nat → Bool} {fs : List Int} {p i : Nat} (h : ok i p = false) : sel ok fs p (i + 1) = sel ok fs p i := by
  unfold sel; rw [List.range_succ, List.filter_append, List.map_append]; simp [h]
theorem sel_mem {ok : Nat → Nat → Bool} {fs : List Int} {p i : Nat} {v : Int} : v ∈ sel ok fs p i ↔ ∃ k, k < i ∧ ok k p = true ∧ fs.getD k 0 = v := by
  unfold sel; simp only [List.mem_map, List.mem_filter, List.mem_range]; constructor
  · rintro ⟨k, ⟨h1, h2⟩, h3⟩; exact ⟨k, h1, h2, h3⟩
  · rintro ⟨k, h1, h2, h3⟩; exact ⟨k, ⟨h1, h2⟩, h3⟩
theorem ints_snoc {y : Int} {t : Tok} : ∀ {vs : List Value} {ys : List Int}, IntsAre vs ys → IntsAre (vs ++ [.int y t]) (ys ++ [y])
  | _, _, .nil => .cons y t .nil
  | _, _, .cons z u r => .cons z u (ints_snoc r)
end Mine

namespace Mine
set_option maxRecDepth 100000
set_option maxHeartbeats 1000000
theorem markFe : True := by w_top off; trivial
open PySem PySem.W PyProof.Rows PySem.Calls PySem.Spec
theorem fillFe : (fun (_ : PySem.W.OpenLaw) (_ : Params → Frag) => True) PySem.Challenge.rw_pg0001_01 Mine.hd.heap_39 := by k_fill; trivial

def feParts : Arguments × List Stmt × Scope × Pos := partsOf (topDef 5)
def feBody : List Stmt := feParts.2.1
def feScope : Scope := feParts.2.2.1
abbrev feCl (L : Addr) : List (Str × Addr) := [("place", L + 4), ("fewest", L + 3), ("model", L + 2), ("row", L + 1)]
abbrev feEnv (L : Addr) : Env := envX "_law_fewest" feScope L 40 (.ref 39) (feCl L)

theorem fe_enter {w : World} {A : Around} {R : Result → Shared → Prop} {s : Shared} {mg mb : Str → Option Value} {v₁ v₂ : Value}
    (hroom : A.depth < recursionLimit) (B : Base w mg mb s.heap)
    (h : ∀ h₁ tk o₁ o₂ o₃ o₄, Fr s.heap s.heap.objs.size h₁ (fun _ => none) → News s.heap s.heap.objs.size h₁ [(s.heap.objs.size + 1, o₁), (s.heap.objs.size + 2, o₂), (s.heap.objs.size + 3, o₃), (s.heap.objs.size + 4, o₄)] →
      o₁.data = .cell (some v₁) → o₂.data = .cell (some v₂) → o₃.data = .cell none → o₄.data = .cell none →
      wpAny (model PR w) (A.deeper (feEnv s.heap.objs.size)) (execs feBody (feEnv s.heap.objs.size)) (fun fl s' => R (.ok (.ret (match fl with | .ret v => v | _ => .none))) s') (fun _ _ => False) { s with heap := h₁, toks := tk }) :
    codeAny (model PR w) A (.call (.ref 40) ⟨[v₁, v₂], []⟩) R s := by
  obtain ⟨loose, mean, T⟩ := B.T
  have X : (hd.heap_39 w.params).In s.heap := B.K
  refine codeAny_call_function hroom (X 40 _ (by k_is)) rfl (by rfl) (by rfl) rfl (codeRec_of X (by k_is)) ?_
  have hsc : feScope.names = ([((Str.ofString "row"), .cell), (Str.ofString "model", .cell), (Str.ofString "fewest", .cell), (Str.ofString "place", .cell), (Str.ofString "range", .globalImplicit), (Str.ofString "len", .globalImplicit), (Str.ofString "min", .globalImplicit)] : List (Str × NameKind)) := by rfl
  show wpAny _ _ (pure [((Str.ofString "row"), v₁), ((Str.ofString "model"), v₂)]) _ _ _
  refine wpAny_pure ?_
  show wpAny _ _ (newFunctionEnv feScope mainGlobals [] [((Str.ofString "row"), v₁), ((Str.ofString "model"), v₂)] ("_law_fewest" ++ ".<locals>.") (some 40) (.ref 39) none builtinsNs) _ _ _
  simp only [newFunctionEnv, Option.isSome_none, Bool.false_eq_true, if_false, hsc]
  refine wpAny_bind (wpAny_alloc ?_)
  simp only [List.forIn_cons, List.forIn_nil, show ((NameKind.globalImplicit == NameKind.cell) = false) from rfl, show ((NameKind.cell == NameKind.cell) = true) from rfl, if_true, Bool.false_eq_true, if_false, pure_bind, bind_assoc]
  have F0 : Fr s.heap s.heap.objs.size (s.heap.push { cls := Value.type "frame", data := Data.dict #[] }) (fun _ => none) := ⟨Heap.Ns.new s.heap (.type "frame"), fun b o e => Heap.get?_push_of_some _ e, Nat.le_refl _⟩
  have N0 : News s.heap s.heap.objs.size (s.heap.push { cls := Value.type "frame", data := Data.dict #[] }) [] := News.nil
  have z0 : (s.heap.push { cls := Value.type "frame", data := Data.dict #[] }).objs.size = s.heap.objs.size + 1 := Heap.size_push ..
  generalize s.heap.push { cls := Value.type "frame", data := Data.dict #[] } = H0 at F0 N0 z0
  refine wpAny_bind (wpAny_alloc ?_)
  have F1 := F0.push { cls := Value.type "cell", data := Data.cell none }
  have N1 := N0.push F0 { cls := Value.type "cell", data := Data.cell none }
  have z1 : (H0.push { cls := Value.type "cell", data := Data.cell none }).objs.size = s.heap.objs.size + 2 := by rw [Heap.size_push, z0]
  dsimp only
  rw [z0] at N1 ⊢
  generalize H0.push { cls := Value.type "cell", data := Data.cell none } = H1 at F1 N1 z1
  refine wpAny_bind (wpAny_alloc ?_)
  have F2 := F1.push { cls := Value.type "cell", data := Data.cell none }
  have N2 := N1.push F1 { cls := Value.type "cell", data := Data.cell none }
  have z2 : (H1.push { cls := Value.type "cell", data := Data.cell none }).objs.size = s.heap.objs.size + 3 := by rw [Heap.size_push, z1]
  dsimp only
  rw [z1] at N2 ⊢
  generalize H1.push { cls := Value.type "cell", data := Data.cell none } = H2 at F2 N2 z2
  refine wpAny_bind (wpAny_alloc ?_)
  have F3 := F2.push { cls := Value.type "cell", data := Data.cell none }
  have N3 := N2.push F2 { cls := Value.type "cell", data := Data.cell none }
  have z3 : (H2.push { cls := Value.type "cell", data := Data.cell none }).objs.size = s.heap.objs.size + 4 := by rw [Heap.size_push, z2]
  dsimp only
  rw [z2] at N3 ⊢
  generalize H2.push { cls := Value.type "cell", data := Data.cell none } = H3 at F3 N3 z3
  refine wpAny_bind (wpAny_alloc ?_)
  have F4 := F3.push { cls := Value.type "cell", data := Data.cell none }
  have N4 := N3.push F3 { cls := Value.type "cell", data := Data.cell none }
  dsimp only
  rw [z3] at N4 ⊢
  generalize H3.push { cls := Value.type "cell", data := Data.cell none } = H4 at F4 N4
  clear N0 N1 N2 N3 F0 F1 F2 F3
  generalize hLL : s.heap.objs.size = L at *
  refine wpAny_bind (storeX_C (cn := "_law_fewest") (cs := feScope) (a := 40) (ccd := .ref 39) (cl := feCl L) (s := ⟨H4, _, _, _, _⟩) F4 N4 (c := L + 1) (by rfl) (by k_updF) (by rfl) (fun h5 o5 F5 N5 d5 => ?_) (by rfl) (by rfl))
  refine wpAny_bind (storeX_C (cn := "_law_fewest") (cs := feScope) (a := 40) (ccd := .ref 39) (cl := feCl L) (s := ⟨h5, _, _, _, _⟩) F5 N5 (c := L + 2) (by rfl) (by k_updF) (by rfl) (fun h6 o6 F6 N6 d6 => ?_) (by rfl) (by rfl))
  refine wpAny_pure ⟨T.nolimit.keeps F6.keep, codeAny_func ?_⟩
  have N7 : News s.heap L h6 [(L + 1, o5), (L + 2, o6), (L + 3, { cls := Value.type "cell", data := Data.cell none }), (L + 4, { cls := Value.type "cell", data := Data.cell none })] := fun p hp => N6 p (by
    simp only [List.mem_cons, List.not_mem_nil, or_false] at hp ⊢
    rcases hp with e | e | e | e <;> simp [e])
  exact wpAny_mono (h h6 _ o5 o6 _ _ F6 N7 d5 d6 rfl rfl) (fun _ _ x => x) fun _ _ x => x.elim

theorem news_lt {h₀ h : Heap} {L : Addr} {news : List (Addr × Obj)} (N : News h₀ L h news) : ∀ p ∈ news, p.1 < h.objs.size := fun p hp => Heap.lt_size (N p hp).1
/-- the table of the fewest pieces, as far as it goes -/
def FewTo (ok : Nat → Nat → Bool) (fs : List Int) : Prop :=
  fs.getD 0 0 = 0 ∧ ∀ p, 1 ≤ p → p < fs.length → ∃ k, k < p ∧ ok k p = true ∧ fs.getD p 0 = 1 + fs.getD k 0 ∧ ∀ k', k' < p → ok k' p = true → fs.getD k 0 ≤ fs.getD k' 0

theorem getD_snoc {fs : List Int} {v : Int} {k : Nat} (h : k < fs.length) : (fs ++ [v]).getD k 0 = fs.getD k 0 := by
  rw [List.getD_eq_getElem?_getD, List.getD_eq_getElem?_getD, List.getElem?_append_left h]
theorem few_snoc {ok : Nat → Nat → Bool} {fs : List Int} {M : Int} {n : Nat} (few : FewTo ok fs) (hn : fs.length = n + 1) (h1 : ∃ k, k < n + 1 ∧ ok k (n + 1) = true ∧ M = fs.getD k 0) (h2 : ∀ k', k' < n + 1 → ok k' (n + 1) = true → M ≤ fs.getD k' 0) : FewTo ok (fs ++ [1 + M]) := by
  refine ⟨by rw [getD_snoc (by omega)]; exact few.1, fun p hp hp' => ?_⟩
  rw [List.length_append, List.length_singleton] at hp'
  by_cases z : p < fs.length
  · obtain ⟨k, a, b, c, d⟩ := few.2 p hp z
    refine ⟨k, a, b, ?_, fun k' e f => ?_⟩
    · rw [getD_snoc z, getD_snoc (by omega)]; exact c
    · rw [getD_snoc (by omega), getD_snoc (by omega)]; exact d k' e f
  · have e : p = fs.length := by omega
    obtain ⟨k, a, b, c⟩ := h1
    have hl : (fs ++ [1 + M]).getD p 0 = 1 + M := by
      rw [e, List.getD_eq_getElem?_getD, List.getElem?_append_right (Nat.le_refl _)]; simp
    have ep : p = n + 1 := by omega
    refine ⟨k, by omega, by rw [ep]; exact b, ?_, fun k' e' f => ?_⟩
    · rw [hl, getD_snoc (by omega), c]
    · rw [getD_snoc (by omega), getD_snoc (by omega), ← c]; rw [ep] at f; exact h2 k' (by omega) f

theorem fe_body {w : World} {A : Around} {h₀ h : Heap} {s : Shared} {L : Addr} {mg mb : Str → Option Value} {row mod : Str} {t₁ t₂ : Tok} {o₁ o₂ o₃ o₄ : Obj} {tk : Nat} {Q : Flow → Shared → Prop}
    (hh : A.handled = none) (B : Base w mg mb h₀) (F : Fr h₀ L h (fun _ => none)) (N : News h₀ L h [(L + 1, o₁), (L + 2, o₂), (L + 3, o₃), (L + 4, o₄)])
    (d1 : o₁.data = .cell (some (.str row t₁))) (d2 : o₂.data = .cell (some (.str mod t₂))) (d3 : o₃.data = .cell none) (d4 : o₄.data = .cell none) (hrow : row.length = 7) (H : Okay 7 (okOf row mod))
    (hQ : ∀ h' tk fa ys k fs, (∀ b o, h₀.get? b = some o → h'.get? b = some o) → h'.get? fa = some (W.listOf ys.toArray k) → h₀.get? fa = none → IntsAre ys fs → fs.length = 8 → FewTo (okOf row mod) fs → Q (.ret (.ref fa)) { s with heap := h', toks := tk }) :
    wpAny (model PR w) A (execs feBody (feEnv L)) Q (fun _ _ => False) { s with heap := h, toks := tk } := by
  have X : (hd.heap_39 w.params).In h₀ := B.K
  obtain ⟨loose, mean, T⟩ := B.T
  have hlen : row.length ≤ sizeLine := by rw [hrow]; decide
  delta feBody
  with_unfolding_all (conv => arg 3; arg 1; whnf)
  iterate 9 (walk1 <;> try dsimp only)
  rename_i fa h1 l1 h2 o₃' F2 N2 d3'
  refine wpAny_execs_cons (wpAny_For ?_ (by intro _; rfl))
  iterate 18 (walk1 <;> try dsimp only)
  rename_i h3 _ _ _ _ hr F3 N3 _
  rw [hrow] at hr
  refine wpAny_pyIter_range hr (by decide) ?_
  have F4 := F3.push { cls := .type "range_iterator", data := .fields #[rawInt 1, rawInt 7, rawInt 1] }
  have N4 : News h₀ L (h3.push { cls := .type "range_iterator", data := .fields #[rawInt 1, rawInt 7, rawInt 1] }) _ := fun p hp => ⟨Heap.get?_push_of_some _ (N3 p hp).1, (N3 p hp).2⟩
  have hI := news_lt N3
  have hLI : @LT.lt Nat _ L h3.objs.size := F3.ns.lt
  have hIn : h₀.get? h3.objs.size = none := Heap.get?_none_of_le (Nat.le_trans F3.above (Nat.le_of_lt hLI))
  have hst : IsRangeIter (h3.push { cls := .type "range_iterator", data := .fields #[rawInt 1, rawInt 7, rawInt 1] }) h3.objs.size (1 + (0 : Nat) * 1) (((7 : Nat) : Int) - (0 : Nat)) 1 := Heap.get?_push_size _ rfl
  k_lt hI
  show codeAny _ _ _ _ { s with heap := h3.push { cls := .type "range_iterator", data := .fields #[rawInt 1, rawInt 7, rawInt 1] }, toks := _ }
  generalize h3.push { cls := .type "range_iterator", data := .fields #[rawInt 1, rawInt 7, rawInt 1] } = h4 at F4 N4 hst ⊢
  generalize h3.objs.size = I at *
  clear F3 N3 hr
  refine forLoop_H (s := ⟨h4, _, _, _, _⟩) (LCg.range_walks hh 1 7) (fun i h => ∃ (o₄ : Obj) (v₄ : Option Value) (ys : List Value) (k : Nat) (fs : List Int), Fr h₀ L h (fun _ => none) ∧ News h₀ L h [(fa, W.listOf ys.toArray k), (L + 1, o₁), (L + 2, o₂), (L + 3, o₃'), (L + 4, o₄)] ∧
    o₄.data = .cell v₄ ∧ IntsAre ys fs ∧ fs.length = i + 1 ∧ FewTo (okOf row mod) fs) hst ⟨o₄, none, _, 0, [0], F4, N4, d4, .cons _ _ .nil, rfl, rfl, fun p h1 h2 => absurd h2 (by simp; omega)⟩ ?_ ?_ ?_ PassesOwn.never
  · rintro i h h' ⟨o, v, ys, k, fs, Fi, Ni, r⟩ hk
    exact ⟨o, v, ys, k, fs, LCg.fr_but Fi hk (by k_ne) hIn, LCg.news_but Ni hk (by k_all), r⟩
  · rintro i v h5 tk5 hi ⟨tv, rfl⟩ ⟨o, v₄, ys, k, fs, F5, N5, d5, hys, hlen', few⟩ st
    have N6 : News h₀ L h5 ((I, { cls := .type "range_iterator", data := .fields #[rawInt (1 + ((i + 1 : Nat) : Int) * 1), rawInt (((7 : Nat) : Int) - ((i + 1 : Nat) : Int)), rawInt 1] }) :: [(fa, W.listOf ys.toArray k), (L + 1, o₁), (L + 2, o₂), (L + 3, o₃'), (L + 4, o)]) :=
      List.forall_mem_cons.mpr ⟨⟨st, Nat.ne_of_gt hLI, hIn⟩, N5⟩
    clear N5
    generalize hoI : ({ cls := .type "range_iterator", data := .fields #[rawInt (1 + ((i + 1 : Nat) : Int) * 1), rawInt (((7 : Nat) : Int) - ((i + 1 : Nat) : Int)), rawInt 1] } : Obj) = oI at N6
    iterate 14 (walk1 <;> try dsimp only)
    rename_i h6 o6 F6 N6' d6
    refine LCt.ListComp_T (F₀ := F6) (by with_unfolding_all rfl) (by decide) (by rfl) (by decide) (by rfl) ?_
    iterate 7 (walk1 <;> try dsimp only)
    rename_i h7 _ _ _ _ hr7 F7 N7 _
    have hsm : Builtin.Range.small 0 (1 + (i : Int)) 1 = true ∧ Builtin.Range.rangeSize 0 (1 + (i : Int)) 1 = ((i + 1 : Nat) : Int) := by
      have : i = 0 ∨ i = 1 ∨ i = 2 ∨ i = 3 ∨ i = 4 ∨ i = 5 ∨ i = 6 := by omega
      rcases this with e | e | e | e | e | e | e <;> subst e <;> decide
    refine LCt.CompSrcT.range hh F7 N7 hr7 hsm.1 hsm.2 (by rw [sizeLine_eq]; omega) fun g => ?_
    refine compT_ind (fun idx zs => IntsAre zs (sel (okOf row mod) fs (i + 1) idx)) trivial .nil ?_ ?_
    · rintro idx zs v I' oI' C' oC' D' m' h8 tk8 E' hidx hzs ⟨t9, rfl⟩ hC' hx' F8 N8 off' ne'
      simp only [LCg.Off3, and_true] at off'
      clear F7 N7
      iterate 12 (walk1 <;> try dsimp only)
      rename_i h9 t9' tk9 F9 N9 _
      refine wpAny_truthy_bool ?_
      have hb : (!(Builtin.Str.occurrences mod (Txt.slice row (some (0 + (idx : Int))) (some (1 + (i : Int)))) 0 mod.length 1).isEmpty) = okOf row mod idx (i + 1) := by
        unfold okOf Txt.contains
        rw [Int.zero_add, show (1 + (i : Int)) = ((i + 1 : Nat) : Int) by omega]
      rw [hb]
      cases hok : okOf row mod idx (i + 1) with
      | false =>
        rw [if_neg (by decide)]
        exact ⟨h9, _, rfl, F9, N9, by rw [sel_no hok]; exact hzs⟩
      | true =>
        rw [if_pos rfl]
        iterate 3 (walk1 <;> try dsimp only)
        have hfi : fs[idx]? = some (fs.getD idx 0) := by rw [List.getD_eq_getElem?_getD, List.getElem?_eq_getElem (by omega)]; rfl
        obtain ⟨tq, hq⟩ := hys.get idx _ hfi
        refine item_litK (N9.isList (.tail _ (.tail _ (.tail _ (.tail _ (.head _)))))) (by omega) (by omega) (v := .int (fs.getD idx 0) tq) (by rw [show (0 + (idx : Int)).toNat = idx by omega]; exact hq) ?_ (by with_unfolding_all rfl)
        exact ⟨h9, _, rfl, F9, N9, by rw [sel_yes hok]; exact ints_snoc hzs⟩
    · rintro zs hzs D h8 tk8 F8 N8 off'
      simp only [LCg.Off1, and_true] at off'
      dsimp only
      walk1
      try dsimp only
      have hpos : 0 < (sel (okOf row mod) fs (i + 1) (i + 1)).length := by
        refine List.length_pos_of_mem (sel_mem.mpr ⟨i, by omega, H.one i hi, rfl⟩)
      refine min_list_N hh F8 N8 (N8.isList (.head _)) hzs hpos fun h9 M tM tk9 F9 N9 hM hmin => ?_
      clear F8 N8
      iterate 5 (walk1 <;> try dsimp only)
      rename_i h10 F10 N10
      rw [List.push_toArray] at N10
      have hI10 := N10.get (.tail _ (.head _))
      rw [← hoI] at hI10
      obtain ⟨kM, hk1, hk2, hk3⟩ := sel_mem.mp hM
      refine ⟨h10, _, rfl, hI10, o6, _, ys ++ [.int (1 + M) tk9], k + 1, fs ++ [1 + M], F10, fun p hp => N10 p (.tail _ (.tail _ hp)), d6, ints_snoc hys, by rw [List.length_append, hlen']; rfl, few_snoc few hlen' ⟨kM, hk1, hk2, hk3.symm⟩ fun k' h1 h2 => hmin _ (sel_mem.mpr ⟨k', h1, h2, rfl⟩)⟩
  · rintro h5 tk5 ⟨o, v₄, ys, k, fs, F5, N5, d5, hys, hlen', few⟩
    dsimp only
    iterate 3 (walk1 <;> try dsimp only)
    exact hQ h5 _ fa ys k fs F5.keep (N5.get (.head _)) (N5 _ (.head _)).2.2 hys hlen' few

theorem fe_spec {w : World} {A : Around} {R : Result → Shared → Prop} {s : Shared} {mg mb : Str → Option Value} {row mod : Str} {t₁ t₂ : Tok}
    (hh : A.handled = none) (hroom : A.depth < recursionLimit) (B : Base w mg mb s.heap) (hrow : row.length = 7) (H : Okay 7 (okOf row mod))
    (hQ : ∀ h' tk fa ys k fs, (∀ b o, s.heap.get? b = some o → h'.get? b = some o) → h'.get? fa = some (W.listOf ys.toArray k) → s.heap.get? fa = none → IntsAre ys fs → fs.length = 8 → FewTo (okOf row mod) fs → R (.ok (.ret (.ref fa))) { s with heap := h', toks := tk }) :
    codeAny (model PR w) A (.call (.ref 40) ⟨[.str row t₁, .str mod t₂], []⟩) R s := by
  refine fe_enter hroom B fun h₁ tk o₁ o₂ o₃ o₄ F N d1 d2 d3 d4 => ?_
  exact fe_body (by exact hh) B F N d1 d2 d3 d4 hrow H fun h' tk' fa ys k fs e1 e2 e3 e4 e5 e6 => hQ h' tk' fa ys k fs e1 e2 e3 e4 e5 e6
theorem few_of {ok : Nat → Nat → Bool} {fs : List Int} (h : FewTo ok fs) (hl : fs.length = 8) : IsFew ok (fun k => fs.getD k 0) 7 :=
  ⟨h.1, fun p h1 h2 => h.2 p h1 (by omega)⟩
end Mine

namespace Mine
theorem markPlainC : True := by w_top off; trivial
open PySem PySem.W PyProof.Rows PySem.Calls PySem.Spec
def let3 (k : Int) : Str := if k = 0 then Str.ofString "a" else if k = 1 then Str.ofString "b" else Str.ofString "c"
theorem let3_len (k : Int) : (let3 k).length = 1 := by
  unfold let3
  split
  · rfl
  · split <;> rfl
theorem let3_ls (k : Int) : Ls (let3 k) = [97] ∨ Ls (let3 k) = [98] ∨ Ls (let3 k) = [99] := by
  unfold let3
  split
  · exact .inl rfl
  · split
    · exact .inr (.inl rfl)
    · exact .inr (.inr rfl)
theorem ls_app (x y : Str) : Ls (x ++ y) = Ls x ++ Ls y := Array.toList_append
theorem ls_join : ∀ l : List Str, Ls (Txt.join (Str.ofString "") l) = (l.map Ls).flatten := by
  intro l
  have e : Txt.join (Str.ofString "") l = Str.join ⟨#[]⟩ l := StrLaws.glued_eq_join _ l
  rw [e]
  clear e
  induction l with
  | nil => rfl
  | cons a r ih => rw [join_nil_cons, ls_app, ih]; rfl
theorem abc_ls {f : Int → Int} (ns : List Int) : ∀ c ∈ Ls (Txt.join (Str.ofString "") (ns.map fun a => let3 (f a))), c = 97 ∨ c = 98 ∨ c = 99 := by
  intro c hc
  rw [ls_join] at hc
  obtain ⟨l, hl, hc⟩ := List.mem_flatten.mp hc
  obtain ⟨x, hx, rfl⟩ := List.mem_map.mp hl
  obtain ⟨a, _, rfl⟩ := List.mem_map.mp hx
  rcases let3_ls (f a) with e | e | e <;> rw [e] at hc <;> simp at hc <;> omega
end Mine

namespace Mine
set_option maxRecDepth 100000
set_option maxHeartbeats 1000000
theorem markLw1 : True := by w_top off; trivial
open PySem PySem.W PyProof.Rows PySem.Calls PySem.Spec
theorem fillLw1 : (fun (_ : PySem.W.OpenLaw) (_ : Params → Frag) => True) PySem.Challenge.rw_pg0001_01 Mine.hd.heap_39 := by k_fill; trivial

def lwParts : Arguments × List Stmt × Scope × Pos := partsOf (topDef 6)
def lwBody : List Stmt := lwParts.2.1
def lwScope : Scope := lwParts.2.2.1
def lwRest : List Stmt := lwBody.drop 4
abbrev lwEnv (af : Addr) (cv : Value) (L : Addr) : Env := envX "law" lwScope L af cv []

theorem carried_snoc {f : Int → Str} {zs : List Value} {ns : List Int} {i : Nat} {x : Int} {y : Str} {t : Tok} (h : CarriedAll zs ((ns.take i).map fun a => PyData.str (f a))) (hx : ns[i]? = some x) (hy : f x = y) :
    CarriedAll (zs ++ [.str y t]) ((ns.take (i + 1)).map fun a => PyData.str (f a)) := by
  rw [List.take_add_one, hx, List.map_append]
  exact h.appendLM (.cons (by rw [← hy]; exact .str _ _) .nil)
local macro_rules | `(tactic| walk_at "eval Name") => `(tactic| (k_dflt (refine' nameX_L ?F ?v ?_ ?a ?b; (case F => k_asm); (case a => rfl); (case b => rfl); (case v => first | with_reducible assumption | ((try dsimp only); repeat (first | with_reducible assumption | exact if_pos rfl | refine Eq.trans (if_neg (by decide)) ?_)) | with_reducible rfl); k_whole)))
theorem lw_head {w : World} {af : Addr} {cv : Value} {A : Around} {h₀ h : Heap} {s : Shared} {L a : Addr} {mg mb : Str → Option Value} {vs : List Value} {xs : List Int} {tk : Nat} {m : Str → Option Value} {Q : Flow → Shared → Prop}
    (hh : A.handled = none) (B : Base w mg mb h₀) (F : Fr h₀ L h m) (N : News h₀ L h [(30, tabObj #[])]) (hm : m "script" = some (.ref a)) (hl : h₀.IsList a vs.toArray) (hi : IntsAre vs xs) (l30 : @LT.lt Nat _ 30 L) (hlen : ¬ ((63 : Nat) : Int) < (xs.length : Int))
    (hQ : ∀ h' tk' m' row mod t1 t2, Fr h₀ L h' m' → News h₀ L h' [(30, tabObj #[])] → m' "row" = some (.str row t1) → m' "model" = some (.str mod t2) → row.length = 7 → mod.length = 8 → (∀ c ∈ Ls row, c ∈ Ls mod) → 46 ∉ Ls mod →
      wpAny (model PR w) A (execs lwRest (lwEnv af cv L)) Q (fun _ _ => False) { s with heap := h', toks := tk' }) :
    wpAny (model PR w) A (execs lwBody (lwEnv af cv L)) Q (fun _ _ => False) { s with heap := h, toks := tk } := by
  have X : (hd.heap_39 w.params).In h₀ := B.K
  obtain ⟨loose, mean, T⟩ := B.T
  delta lwBody
  with_unfolding_all (conv => arg 3; arg 1; whnf)
  iterate 9 (walk1 <;> try dsimp only)
  refine' kmk_slice_ints (s := ⟨h, _, _, _, _⟩) ?F ?N ?l ?p ?q ?i ?m ?c ?_ ?s ?t ?z
  (case F => k_asm); (case N => k_asm); (case l => kmk_list); (case p => kmk_part); (case q => kmk_part); (case i => assumption); (case m => kmk_nums); (case c => kmk_len); (case s => with_unfolding_all rfl); (case t => kmk_pure); (case z => kmk_size)
  intro D ws h1 F1 N1 l1 hI1 hC1 hL1
  have hg7 : (List.take (Int.toNat 7) xs).length ≤ 7 := by rw [List.length_take]; exact Nat.min_le_left _ _
  generalize List.take (Int.toNat 7) xs = gs at *
  k_lt l1
  iterate 35 (walk1 <;> try dsimp only)
  rename_i h0' l2 h2 F2 N2 lt2
  have hlit : IntsAre [Value.int 1 tk, Value.int 7 (tk + 1), Value.int 3 (tk + 1 + 1), Value.int 4 (tk + 1 + 1 + 1), Value.int 2 (tk + 1 + 1 + 1 + 1), Value.int 0 (tk + 1 + 1 + 1 + 1 + 1), Value.int 1 (tk + 1 + 1 + 1 + 1 + 1 + 1)] [1, 7, 3, 4, 2, 0, 1] := .cons _ _ (.cons _ _ (.cons _ _ (.cons _ _ (.cons _ _ (.cons _ _ (.cons _ _ .nil))))))
  refine kba_turn (value' := PySem.Expr.Name (PySem.Str.ofString "_") ⟨0, 0, 0, 0⟩) (fun _ => rfl) ?_
  refine kmk_slice_ints (s := ⟨h2, _, _, _, _⟩) (ms := ([1, 7, 3, 4, 2, 0, 1] : List Int).drop ((gs.length : Int).toNat)) F2 N2 (N2.isList (.head _)) (IsPart.int _ _) IsPart.none hlit (kmk_from hlit (by omega)) (List.length_drop ..) ?_ (by with_unfolding_all rfl) (by kmk_pure) (by rw [sizeLine_eq]; exact Nat.le_of_ble_eq_true rfl)
  intro D3 ws3 h3 F3 N3 lt3 hI3 hC3 _
  k_lt lt3
  clear F2 N2
  refine add_lists_ints (s := ⟨h3, _, _, _, _⟩) F3 N3 (N3.isList (.tail _ (.tail _ (.head _)))) (N3.isList (.head _)) hI1 hI3 (fun h4 F4 N4 hI4 => ?_) (by rw [hC3, sizeLine_eq]; simp only [List.length_cons, List.length_nil]; omega)
  have lt4 := news_lt N3
  have hns : (gs ++ ([1, 7, 3, 4, 2, 0, 1] : List Int).drop ((gs.length : Int).toNat)).length = 7 := by rw [List.length_append, List.length_drop]; simp only [List.length_cons, List.length_nil]; omega
  generalize (gs ++ ([1, 7, 3, 4, 2, 0, 1] : List Int).drop ((gs.length : Int).toNat)) = ns at *
  generalize ws ++ ws3 = nv at *
  k_lt lt4
  dsimp only at N4 ⊢
  generalize h3.objs.size = D4 at *
  iterate 8 (walk1 <;> try dsimp only)
  rename_i h5 F5 N5
  replace N5 : News h₀ L h5 [(D4, W.listOf nv.toArray 0), (30, tabObj #[])] := fun p hp => N5 p (by
    rcases List.mem_cons.mp hp with e | hp
    · rw [e]; exact .head _
    · rw [List.mem_singleton.mp hp]; exact .tail _ (.tail _ (.tail _ (.tail _ (.head _)))))
  have hnv : nv.toArray.size = 7 := by rw [List.size_toArray, hI4.length, hns]
  iterate 1 (walk1 <;> try dsimp only)
  refine LCg.ListComp_U (F₀ := F5) (by with_unfolding_all rfl) (by decide) (by rfl) (by decide) (by rfl) ?_
  iterate 1 (walk1 <;> try dsimp only)
  refine LCg.CompSrc.ledger hh F5 N5 (.head _) (by rw [hnv]; decide) fun g => ?_
  rw [hnv]
  refine comp_ind (fun i zs => CarriedAll zs ((ns.take i).map fun a => PyData.str (let3 (a.fmod 3)))) (by exact .inr ⟨_, .head _, rfl, _, rfl⟩) .nil ?_ ?_
  · rintro i zs v I' oI' C' oC' D' m' h8 tk8 E' hi hzs hv hC' hx' F8 N8 off' ne'
    simp only [LCg.Off3, and_true] at off'
    have hni : ∃ x, ns[i]? = some x := ⟨ns[i]'(by omega), List.getElem?_eq_getElem _⟩
    obtain ⟨x, hx⟩ := hni
    obtain ⟨tx, hvx⟩ := hI4.get i x hx
    rw [List.getElem?_toArray] at hv
    rw [hvx] at hv
    cases hv
    iterate 6 (walk1 <;> try dsimp only)
    have h3 : x.fmod 3 = 0 ∨ x.fmod 3 = 1 ∨ x.fmod 3 = 2 := by
      have h1 : 0 ≤ x.fmod 3 := Int.fmod_nonneg_of_pos x (by decide)
      have h2 : x.fmod 3 < 3 := Int.fmod_lt_of_pos x (by decide)
      omega
    rcases h3 with e3 | e3 | e3 <;> rw [e3] <;> walk1 <;> (try dsimp only) <;> refine ⟨h8, _, rfl, F8, N8, carried_snoc hzs hx (by rw [e3]; rfl)⟩
  rintro zs hzs D6 h6 tk6 F6 N6 off6
  simp only [LCg.Off1, and_true] at off6
  rw [List.take_of_length_le (by omega)] at hzs
  clear F5 N5
  iterate 1 (walk1 <;> try dsimp only)
  refine KT.join_1 (s := ⟨h6, _, _, _, _⟩) (l := ns) (g := fun a => let3 (a.fmod 3)) (N6.isList (.head _)) hzs (fun a _ => let3_len _) (by omega) fun tr kr hlr => ?_
  iterate 11 (walk1 <;> try dsimp only)
  rename_i h7 F7 N7
  generalize hrw : Txt.join (Str.ofString "") (List.map (fun a => let3 (a.fmod 3)) ns) = row at *
  refine LCg.ListComp_U (F₀ := F7) (by with_unfolding_all rfl) (by decide) (by rfl) (by decide) (by rfl) ?_
  iterate 7 (walk1 <;> try dsimp only)
  refine kmk_slice_ints (s := ⟨h7, _, _, _, _⟩) (ms := ns.take (Int.toNat 5)) F7 N7 (N7.isList (.tail _ (.head _))) IsPart.none (IsPart.int _ _) hI4 (kmk_upto hI4 (by decide)) (List.length_take ..) ?_ (by with_unfolding_all rfl) (by kmk_pure) (by rw [hnv]; decide)
  intro D8 mv h8 F8 N8 lt8 hI8 hC8 _
  have hms : (ns.take (Int.toNat 5)).length = 5 := by rw [List.length_take, hns]; rfl
  generalize ns.take (Int.toNat 5) = ms at *
  have hmv : mv.toArray.size = 5 := by rw [List.size_toArray, hI8.length, hms]
  refine LCg.CompSrc.ledger hh F8 N8 (.head _) (by rw [hmv]; decide) fun g => ?_
  rw [hmv]
  refine comp_ind (fun i zs => CarriedAll zs ((ms.take i).map fun a => PyData.str (let3 ((a.fdiv 3).fmod 3)))) (by exact .inr ⟨_, .head _, rfl, _, rfl⟩) .nil ?_ ?_
  · rintro i zs v I' oI' C' oC' D' m' h8 tk8 E' hi hzs hv hC' hx' F8 N8 off' ne'
    simp only [LCg.Off3, and_true] at off'
    have hni : ∃ x, ms[i]? = some x := ⟨ms[i]'(by omega), List.getElem?_eq_getElem _⟩
    obtain ⟨x, hx⟩ := hni
    obtain ⟨tx, hvx⟩ := hI8.get i x hx
    rw [List.getElem?_toArray] at hv
    rw [hvx] at hv
    cases hv
    iterate 9 (walk1 <;> try dsimp only)
    have h3 : (x.fdiv 3).fmod 3 = 0 ∨ (x.fdiv 3).fmod 3 = 1 ∨ (x.fdiv 3).fmod 3 = 2 := by
      have h1 : 0 ≤ (x.fdiv 3).fmod 3 := Int.fmod_nonneg_of_pos _ (by decide)
      have h2 : (x.fdiv 3).fmod 3 < 3 := Int.fmod_lt_of_pos _ (by decide)
      omega
    rcases h3 with e3 | e3 | e3 <;> rw [e3] <;> walk1 <;> (try dsimp only) <;> refine ⟨h8, _, rfl, F8, N8, carried_snoc (f := fun a => let3 ((a.fdiv 3).fmod 3)) hzs hx (by rw [e3]; rfl)⟩
  rintro ys hys D9 h9 tk9 F9 N9 off9
  simp only [LCg.Off1, and_true] at off9
  rw [List.take_of_length_le (by omega)] at hys
  clear F8 N8 F7 N7
  iterate 1 (walk1 <;> try dsimp only)
  refine KT.join_1 (s := ⟨h9, _, _, _, _⟩) (l := ms) (g := fun a => let3 ((a.fdiv 3).fmod 3)) (N9.isList (.head _)) hys (fun a _ => let3_len _) (by omega) fun tm km hlm => ?_
  have habc := abc_ls (f := fun a => (a.fdiv 3).fmod 3) ms
  have hrow := abc_ls (f := fun a => a.fmod 3) ns
  rw [hrw] at hrow
  generalize Txt.join (Str.ofString "") (List.map (fun a => let3 ((a.fdiv 3).fmod 3)) ms) = tail at *
  iterate 3 (walk1 <;> try dsimp only)
  rename_i tmod _ hml h10 F10 N10
  have hls : Ls (Str.ofString "abc" ++ tail) = [97, 98, 99] ++ Ls tail := ls_app _ _
  refine hQ h10 _ _ row (Str.ofString "abc" ++ tail) tr tmod F10 (fun p hp => N10 p (.tail _ (.tail _ (.tail _ (.tail _ hp))))) (by rfl) (by rfl) (hlr.trans hns) ?_ (fun c hc => ?_) (fun hc => ?_)
  · have : (Str.ofString "abc").length = 3 := rfl
    omega
  · rw [hls]
    refine List.mem_append_left _ ?_
    rcases hrow c hc with e | e | e <;> rw [e] <;> decide
  · rw [hls] at hc
    rcases List.mem_append.mp hc with hc | hc
    · exact absurd hc (by decide)
    · rcases habc _ hc with e | e | e <;> exact absurd e (by decide)
end Mine

namespace Mine
set_option maxRecDepth 100000
set_option maxHeartbeats 1000000
theorem markLw2 : True := by w_top off; trivial
open PySem PySem.W PyProof.Rows PySem.Calls PySem.Spec
theorem fillLw2 : (fun (_ : PySem.W.OpenLaw) (_ : Params → Frag) => True) PySem.Challenge.rw_pg0001_01 Mine.hd.heap_39 := by k_fill; trivial

def lwLoop : List Stmt := lwBody.drop 7
local macro_rules | `(tactic| walk_at "eval Name") => `(tactic| (k_dflt (refine' nameX_L ?F ?v ?_ ?a ?b; (case F => k_asm); (case a => rfl); (case b => rfl); (case v => first | with_reducible assumption | ((try dsimp only); repeat (first | with_reducible assumption | exact if_pos rfl | refine Eq.trans (if_neg (by decide)) ?_)) | with_reducible rfl); k_whole)))

theorem lw_mid {w : World} {af : Addr} {cv : Value} {A : Around} {h₀ h : Heap} {s : Shared} {L : Addr} {mg mb : Str → Option Value} {row mod : Str} {t1 t2 : Tok} {tk : Nat} {m : Str → Option Value} {Q : Flow → Shared → Prop}
    (hh : A.handled = none) (hroom : A.depth < recursionLimit) (B : Base w mg mb h₀) (C : CodeHd h₀ 34 30) (F : Fr h₀ L h m) (N : News h₀ L h [(30, tabObj #[])]) (m1 : m "row" = some (.str row t1)) (m2 : m "model" = some (.str mod t2)) (hrow : row.length = 7) (H : Okay 7 (okOf row mod))
    (hQ : ∀ h' tk' m' fa pr fs P qual ea pa ys k fw own, Fr h₀ L h' m' → News h₀ L h' ((pa, W.listOf #[] 0) :: (ea, W.listOf #[] 0) :: (P, tabObj #[]) :: own) → m' "row" = some (.str row t1) → m' "model" = some (.str mod t2) → m' "fewest" = some (.ref fa) → m' "prog" = some (.ref pr) →
      m' "ends" = some (.ref ea) → m' "pieces" = some (.ref pa) → (∀ p ∈ own, p.1 ≠ P ∧ p.1 ≠ ea ∧ p.1 ≠ pa) → ea ≠ pa → P ≠ ea → P ≠ pa →
      (∀ h2 : Heap, (∀ p ∈ own, h2.get? p.1 = some p.2) → Srch h2 fs P mod qual ∧ ProgAt h2 pr fs ∧ h2.get? fa = some (W.listOf ys.toArray k) ∧ GrownAt 30 h2) → IntsAre ys fw → fw.length = 8 → FewTo (okOf row mod) fw →
      wpAny (model PR w) A (execs lwLoop (lwEnv af cv L)) Q (fun _ _ => False) { s with heap := h', toks := tk' }) :
    wpAny (model PR w) A (execs lwRest (lwEnv af cv L)) Q (fun _ _ => False) { s with heap := h, toks := tk } := by
  have X : (hd.heap_39 w.params).In h₀ := B.K
  obtain ⟨loose, mean, T⟩ := B.T
  delta lwRest lwBody
  with_unfolding_all (conv => arg 3; arg 1; whnf)
  iterate 4 (walk1 <;> try dsimp only)
  refine callWith_F ⟨_, _, _, _, F.keep _ _ (X 40 _ (by k_is))⟩ ?_
  iterate 5 (walk1 <;> try dsimp only)
  refine ⟨⟨_, _, _, _, F.keep _ _ (X 40 _ (by k_is))⟩, wpAny_call (fe_spec hh hroom (B.keeps F.keep) hrow H fun h1 tk1 fa ys k fw hk e1 e2 hys hfl few => ?_)⟩
  dsimp only
  obtain ⟨F1, N1⟩ := after_new F N hk e2 e1
  clear F N e1 e2 hk
  iterate 6 (walk1 <;> try dsimp only)
  rename_i h2 F2 N2
  refine callWith_F ⟨_, _, _, _, F2.keep _ _ (X 35 _ (by k_is))⟩ ?_
  iterate 3 (walk1 <;> try dsimp only)
  have n30 := N2 _ (.tail _ (.head _))
  have nfa := N2 _ (.head _)
  refine ⟨⟨_, _, _, _, F2.keep _ _ (X 35 _ (by k_is))⟩, wpAny_call (fi_spec hroom (B.keeps F2.keep) (C.keeps F2.keep) n30.1 fun h3 tk3 objs pr fs P qual ext h30 hobjs hs hP eP => ?_)⟩
  dsimp only at ext eP hobjs ⊢
  have F3 : Fr h₀ L h3 _ := fr_turn F2 (fun b o e ne => ext b o ne e) n30.2.1 n30.2.2
  have base : ∀ a : Addr, h2.get? a = none → h₀.get? a = none := fun a e => by
    cases q : h₀.get? a with
    | none => rfl
    | some o => rw [F2.keep _ _ q] at e; cases e
  have neL : ∀ a : Addr, h2.get? a = none → a ≠ L := fun a e z => by
    obtain ⟨o, es, ep, g, _⟩ := F2.ns
    rw [z, g] at e; cases e
  have nefa : ∀ a : Addr, h2.get? a = none → a ≠ fa := fun a e z => by
    rw [z, nfa.1] at e; cases e
  have f30 : fa ≠ 30 := fun z => by have := nfa.1; rw [z, n30.1] at this; cases this
  obtain ⟨ps30, e30⟩ := h30
  have p30 : (30 : Addr) ≠ P := fun z => by have := n30.1; rw [z, eP] at this; cases this
  generalize hown : ((fa, W.listOf ys.toArray k) :: (30, tabObj ps30) :: objs) = own
  have N3 : News h₀ L h3 ((P, tabObj #[]) :: own) := by
    rw [← hown]
    exact List.forall_mem_cons.mpr ⟨⟨hP, neL _ eP, base _ eP⟩, List.forall_mem_cons.mpr ⟨⟨ext _ _ f30 nfa.1, nfa.2⟩, List.forall_mem_cons.mpr ⟨⟨e30, n30.2⟩, fun p hp => ⟨(hobjs p hp).1, neL _ (hobjs p hp).2.1, base _ (hobjs p hp).2.1⟩⟩⟩⟩
  have hoP : ∀ p ∈ own, p.1 ≠ P := by
    rw [← hown]
    exact List.forall_mem_cons.mpr ⟨fun z => nefa _ eP z.symm, List.forall_mem_cons.mpr ⟨p30, fun p hp => (hobjs p hp).2.2⟩⟩
  clear F2 N2 n30 nfa base neL nefa f30 p30 e30 ext eP hobjs hP
  iterate 15 (walk1 <;> try dsimp only)
  rename_i _ ea _ l4 pa _ l5 tu h6 F6 N6 l6
  refine unpackItemsN_ F6 N6 (N6.isTup (.head _)) hh (by rfl) fun h7 F7 N7 => ?_
  clear F6 N6
  dsimp only
  iterate 8 (walk1 <;> try dsimp only)
  rename_i h8 F8 N8
  refine hQ h8 _ _ fa pr fs P qual ea pa ys k fw own F8 (fun p hp => N8 p (.tail _ hp)) ?_ ?_ ?_ ?_ ?_ ?_ (fun p hp => ⟨hoP p hp, Nat.ne_of_lt (tb_ltOf l4.2 p hp), Nat.ne_of_lt (tb_ltOf l5.2.2 p hp)⟩) (Nat.ne_of_lt l5.1) (Nat.ne_of_lt l4.1) (Nat.ne_of_lt l5.2.1) (fun h2 hp => ?_) hys hfl few
  · exact m1
  · exact m2
  · rfl
  · rfl
  · rfl
  · rfl
  · rw [← hown] at hp
    obtain ⟨a, b⟩ := hs h2 fun p h => hp p (.tail _ (.tail _ h))
    exact ⟨a, b, hp _ (.head _), ps30, hp (30, tabObj ps30) (.tail _ (.head _))⟩
end Mine

namespace Mine
set_option maxRecDepth 100000
set_option maxHeartbeats 1000000
theorem markLo1 : True := by w_top off; trivial
open PySem PySem.W PyProof.Rows PySem.Calls PySem.Spec
theorem fillLo1 : (fun (_ : PySem.W.OpenLaw) (_ : Params → Frag) => True) PySem.Challenge.rw_pg0001_01 Mine.hd.heap_39 := by k_fill; trivial

def forBody : Stmt → List Stmt
  | .For _ _ b _ _ => b
  | _ => []
def loBody : List Stmt := forBody (lwBody.getD 7 default)
def loLast : List Stmt := loBody.drop 2
local macro_rules | `(tactic| walk_at "eval Name") => `(tactic| (k_dflt (refine' nameX_L ?F ?v ?_ ?a ?b; (case F => k_asm); (case a => rfl); (case b => rfl); (case v => first | with_reducible assumption | ((try dsimp only); repeat (first | with_reducible assumption | exact if_pos rfl | refine Eq.trans (if_neg (by decide)) ?_)) | with_reducible rfl); k_whole)))

theorem lo_end {w : World} {af : Addr} {cv : Value} {A : Around} {h₀ h : Heap} {s : Shared} {L I pa ea q fa : Addr} {mg mb : Str → Option Value} {i a : Nat} {n : Nat} {tc te tf : Tok} {tk : Nat} {m : Str → Option Value} {Q : Flow → Shared → Prop} {news : List (Addr × Obj)}
    {pvs eys xs ys : List Value}
    (hh : A.handled = none) (B : Base w mg mb h₀) (F : Fr h₀ L h m) (N : News h₀ L h news) (mc : m "col" = some (.int i tc)) (m3 : m "fewest" = some (.ref fa)) (m5 : m "ends" = some (.ref ea)) (m6 : m "pieces" = some (.ref pa))
    (lp : h.IsList pa pvs.toArray) (hp : pvs[i]? = some (.ref q)) (lq : h.IsList q xs.toArray) (hx : xs.length = n) (le : h.IsList ea eys.toArray) (he : eys[i]? = some (.int a te)) (lf : h.IsList fa ys.toArray) (hf : ys[i]? = some (.int ((n : Int) + (if a < i then 1 else 0)) tf))
    (hi : i ≤ 7) (hn : n ≤ 8)
    (hQ : ∀ tk', Q .next { s with heap := h, toks := tk' }) :
    wpAny (model PR w) A (execs loLast (lwEnv af cv L)) Q (fun _ _ => False) { s with heap := h, toks := tk } := by
  have X : (hd.heap_39 w.params).In h₀ := B.K
  obtain ⟨loose, mean, T⟩ := B.T
  delta loLast loBody lwBody
  with_unfolding_all (conv => arg 3; arg 1; whnf)
  iterate 11 (walk1 <;> try dsimp only)
  refine item_litK lp (by omega) (by omega) (v := .ref q) (by rw [Int.toNat_natCast]; exact hp) ?_ (by with_unfolding_all rfl)
  iterate 1 (walk1 <;> try dsimp only)
  refine kun_lenL (k := n) lq (by simp [hx]) (by omega) ?_
  dsimp only
  iterate 5 (walk1 <;> try dsimp only)
  refine item_litK le (by omega) (by omega) (v := .int a te) (by rw [Int.toNat_natCast]; exact he) ?_ (by with_unfolding_all rfl)
  iterate 4 (walk1 <;> try dsimp only)
  · rename_i hlt
    rw [if_pos (by omega)] at hf
    iterate 5 (walk1 <;> try dsimp only)
    refine item_litK lf (by omega) (by omega) (by rw [Int.toNat_natCast]; exact hf) ?_ (by with_unfolding_all rfl)
    iterate 3 (walk1 <;> try dsimp only)
    · rename_i z; exact absurd rfl z
    · exact wpAny_execs_nil (wpAny_execs_nil (hQ _))
  · rename_i hlt
    rw [if_neg (by omega)] at hf
    iterate 5 (walk1 <;> try dsimp only)
    refine item_litK lf (by omega) (by omega) (by rw [Int.toNat_natCast]; exact hf) ?_ (by with_unfolding_all rfl)
    iterate 3 (walk1 <;> try dsimp only)
    · rename_i z; exact absurd rfl z
    · exact wpAny_execs_nil (wpAny_execs_nil (hQ _))
end Mine

namespace Mine
set_option maxRecDepth 100000
set_option maxHeartbeats 1000000
theorem markLo2 : True := by w_top off; trivial
open PySem PySem.W PyProof.Rows PySem.Calls PySem.Spec

/-- what a part of the ledger tells of every heap that keeps it -/
def OwnTells (h₀ : Heap) (own : List (Addr × Obj)) (R : Heap → Prop) : Prop := ∀ h2, (∀ b o, h₀.get? b = some o → h2.get? b = some o) → (∀ p ∈ own, h2.get? p.1 = some p.2) → R h2
theorem OwnTells.mono {h₀ : Heap} {own own' : List (Addr × Obj)} {R R' : Heap → Prop} (x : OwnTells h₀ own R) (hs : ∀ p ∈ own, p ∈ own') (hr : ∀ h2, R h2 → R' h2) : OwnTells h₀ own' R' :=
  fun h2 k ho => hr h2 (x h2 k fun p hp => ho p (hs p hp))
theorem OwnTells.here {h₀ h : Heap} {L : Addr} {m : Str → Option Value} {own : List (Addr × Obj)} {R : Heap → Prop} (x : OwnTells h₀ own R) (F : Fr h₀ L h m) (ho : ∀ p ∈ own, h.get? p.1 = some p.2) : R h := x h F.keep ho

def Codish (o : Obj) : Prop := ∃ vs q t, o.data = .fields vs ∧ vs[1]? = some (.str q t)

theorem own_code {h₀ h : Heap} {L c : Addr} {m : Str → Option Value} {q : Str} (F : Fr h₀ L h m) (hc : h.CodeRec (.ref c) q) :
    ∃ ow, News h₀ L h ow ∧ (∀ p ∈ ow, Codish p.2) ∧ OwnTells h₀ ow (fun h2 => h2.CodeRec (.ref c) q) := by
  obtain ⟨c', oc, vs, t, e0, e1, e2, e3⟩ := hc
  cases e0
  cases hz : h₀.get? c with
  | some o =>
    have e := F.keep _ _ hz
    rw [e1] at e
    cases e
    exact ⟨[], News.nil, fun p hp => (nomatch hp), fun h2 k _ => ⟨c, oc, vs, t, rfl, k _ _ hz, e2, e3⟩⟩
  | none =>
    refine ⟨[(c, oc)], List.forall_mem_cons.mpr ⟨⟨e1, fun z => ?_, hz⟩, List.forall_mem_nil _⟩, List.forall_mem_cons.mpr ⟨⟨vs, q, t, e2, e3⟩, List.forall_mem_nil _⟩, fun h2 _ ho => ⟨c, oc, vs, t, rfl, ho _ (.head _), e2, e3⟩⟩
    have z' : c = L := z
    obtain ⟨oL, es, ep, g, d, _⟩ := F.ns
    rw [z', g] at e1; cases e1; rw [d] at e2; cases e2

theorem own_tab {h₀ h : Heap} {L P : Addr} {m : Str → Option Value} {qual : Str} {ps : Array Value} (F : Fr h₀ L h m) (hP : h.get? P = some (tabObj ps)) (t : TabOk h qual P) :
    ∃ ow, News h₀ L h ow ∧ (∀ p ∈ ow, Codish p.2) ∧ OwnTells h₀ ow (fun h2 => h2.get? P = some (tabObj ps) → TabOk h2 qual P) := by
  rcases t with z | ⟨c1, c2, z, z1, z2⟩
  · rw [hP] at z; cases z
    exact ⟨[], News.nil, fun p hp => (nomatch hp), fun h2 _ _ e => .inl e⟩
  · rw [hP] at z; cases z
    obtain ⟨o1, n1, k1, r1⟩ := own_code F z1
    obtain ⟨o2, n2, k2, r2⟩ := own_code F z2
    refine ⟨o1 ++ o2, fun p hp => ?_, fun p hp => ?_, fun h2 k ho e => .inr ⟨c1, c2, e, r1 h2 k fun p hp => ho p (List.mem_append_left _ hp), r2 h2 k fun p hp => ho p (List.mem_append_right _ hp)⟩⟩
    · rcases List.mem_append.mp hp with hp | hp
      · exact n1 p hp
      · exact n2 p hp
    · rcases List.mem_append.mp hp with hp | hp
      · exact k1 p hp
      · exact k2 p hp
theorem cod_off {h : Heap} {a b : Addr} {o o' : Obj} (e : h.get? a = some o) (c : Codish o) (e' : h.get? b = some o') (hn : ¬ Codish o') : a ≠ b := fun z => by
  rw [z, e'] at e; cases e; exact hn c
theorem not_cod_list {a : Array Value} {n : Nat} : ¬ Codish (W.listOf a n) := fun ⟨_, _, _, e, _⟩ => by cases e
theorem not_cod_tab {h : Heap} {qual : Str} {P : Addr} {ps : Array Value} (t : TabOk h qual P) (hP : h.get? P = some (tabObj ps)) : ¬ Codish (tabObj ps) := fun ⟨vs, q, t', e, e'⟩ => by
  obtain ⟨ps', hP', hn⟩ := t.ps
  rw [hP] at hP'; cases hP'
  cases e
  exact hn _ _ e'

/-- a list of texts lies at q -/
def PieceAt (h : Heap) (q : Addr) (ts : List Str) : Prop := ∃ xs k, h.get? q = some (W.listOf xs.toArray k) ∧ CarriedAll xs (ts.map PyData.str)
/-- what the tables tell of the place c -/
def RowAt (row mod : Str) (h : Heap) (eys pvs : List Value) (c : Nat) : Prop := ∃ (a : Nat) (rs : List (Nat × Nat)) (q : Addr) (te : Tok), Last 7 (okOf row mod) c a rs ∧ eys[c]? = some (.int (a : Nat) te) ∧ pvs[c]? = some (.ref q) ∧ PieceAt h q (txts row rs)

structure Fm (m : Str → Option Value) (row mod : Str) (t1 t2 : Tok) (fa pr ea pa : Addr) : Prop where
  row : m "row" = some (.str row t1)
  model : m "model" = some (.str mod t2)
  fewest : m "fewest" = some (.ref fa)
  prog : m "prog" = some (.ref pr)
  ends : m "ends" = some (.ref ea)
  pieces : m "pieces" = some (.ref pa)

def LoInv (h₀ : Heap) (L I pa ea P pr fs fa : Addr) (qual row mod : Str) (t1 t2 : Tok) (ys : List Value) (k i : Nat) (h : Heap) : Prop :=
  ∃ m ps own eys ke pvs kp, Fr h₀ L h m ∧ News h₀ L h ((pa, W.listOf pvs.toArray kp) :: (ea, W.listOf eys.toArray ke) :: (P, tabObj ps) :: own) ∧ OwnOff own [pa, ea, P, I] ∧ Fm m row mod t1 t2 fa pr ea pa ∧
    OwnTells h₀ own (fun h2 => Srch h2 fs P mod qual ∧ ProgAt h2 pr fs ∧ h2.get? fa = some (W.listOf ys.toArray k) ∧ GrownAt 30 h2) ∧
    OwnTells h₀ own (fun h2 => h2.get? P = some (tabObj ps) → TabOk h2 (lamQual qual) P) ∧
    OwnTells h₀ own (fun h2 => ∀ c, c < i → RowAt row mod h2 eys pvs c) ∧ eys.length = i ∧ pvs.length = i

theorem RowAt.snoc {row mod : Str} {h : Heap} {eys pvs : List Value} {c : Nat} {x y : Value} (r : RowAt row mod h eys pvs c) : RowAt row mod h (eys ++ [x]) (pvs ++ [y]) c := by
  obtain ⟨a, rs, q, te, r1, r2, r3, r4⟩ := r
  have b1 : c < eys.length := by
    rcases Nat.lt_or_ge c eys.length with z | z
    · exact z
    · rw [List.getElem?_eq_none z] at r2; cases r2
  have b2 : c < pvs.length := by
    rcases Nat.lt_or_ge c pvs.length with z | z
    · exact z
    · rw [List.getElem?_eq_none z] at r3; cases r3
  exact ⟨a, rs, q, te, r1, by rw [List.getElem?_append_left b1]; exact r2, by rw [List.getElem?_append_left b2]; exact r3, r4⟩

/-- the turn's tables, put in order -/
theorem LoInv.next {h₀ h : Heap} {L I pa ea P pr fs fa q : Addr} {qual row mod : Str} {t1 t2 : Tok} {ys : List Value} {k i : Nat} {m : Str → Option Value} {ps : Array Value} {own : List (Addr × Obj)} {eys pvs xs : List Value} {ke kp kq a : Nat} {te : Tok} {rs : List (Nat × Nat)}
    (F : Fr h₀ L h m) (N : News h₀ L h ((pa, W.listOf (pvs ++ [Value.ref q]).toArray kp) :: (ea, W.listOf (eys ++ [Value.int (a : Nat) te]).toArray ke) :: (P, tabObj ps) :: own)) (ho : OwnOff own [pa, ea, P, I]) (fm : Fm m row mod t1 t2 fa pr ea pa)
    (hs : OwnTells h₀ own (fun h2 => Srch h2 fs P mod qual ∧ ProgAt h2 pr fs ∧ h2.get? fa = some (W.listOf ys.toArray k) ∧ GrownAt 30 h2)) (ht : OwnTells h₀ own (fun h2 => h2.get? P = some (tabObj ps) → TabOk h2 (lamQual qual) P))
    (hr : OwnTells h₀ own (fun h2 => ∀ c, c < i → RowAt row mod h2 eys pvs c)) (hle : eys.length = i) (hlp : pvs.length = i) (hq : (q, W.listOf xs.toArray kq) ∈ own) (hx : CarriedAll xs ((txts row rs).map PyData.str)) (hl : Last 7 (okOf row mod) i a rs) :
    LoInv h₀ L I pa ea P pr fs fa qual row mod t1 t2 ys k (i + 1) h := by
  refine ⟨m, ps, own, _, ke, _, kp, F, N, ho, fm, hs, ht, fun h2 k ho2 c hc => ?_, by simp [hle], by simp [hlp]⟩
  by_cases z : c < i
  · exact (hr h2 k ho2 c z).snoc
  · have e : c = i := by omega
    subst e
    exact ⟨a, rs, q, te, hl, by rw [← hle]; simp, by rw [← hlp]; simp, xs, kq, ho2 _ hq, hx⟩
end Mine

namespace Mine
set_option maxRecDepth 100000
set_option maxHeartbeats 1000000
theorem markLo3 : True := by w_top off; trivial
open PySem PySem.W PyProof.Rows PySem.Calls PySem.Spec
theorem fillLo3 : (fun (_ : PySem.W.OpenLaw) (_ : Params → Frag) => True) PySem.Challenge.rw_pg0001_01 Mine.hd.heap_39 := by k_fill; trivial
local macro_rules | `(tactic| walk_at "eval Name") => `(tactic| (k_dflt (refine' nameX_L ?F ?v ?_ ?a ?b; (case F => k_asm); (case a => rfl); (case b => rfl); (case v => first | with_reducible assumption | ((try dsimp only); repeat (first | with_reducible assumption | exact if_pos rfl | refine Eq.trans (if_neg (by decide)) ?_)) | with_reducible rfl); k_whole)))
theorem Fm.set {m : Str → Option Value} {row mod : Str} {t1 t2 : Tok} {fa pr ea pa : Addr} {x : Str} {v : Option Value} (f : Fm m row mod t1 t2 fa pr ea pa) (hx : x ≠ "row" ∧ x ≠ "model" ∧ x ≠ "fewest" ∧ x ≠ "prog" ∧ x ≠ "ends" ∧ x ≠ "pieces") :
    Fm (fun y => if y = x then v else m y) row mod t1 t2 fa pr ea pa :=
  ⟨(if_neg (Ne.symm hx.1)).trans f.row, (if_neg (Ne.symm hx.2.1)).trans f.model, (if_neg (Ne.symm hx.2.2.1)).trans f.fewest, (if_neg (Ne.symm hx.2.2.2.1)).trans f.prog, (if_neg (Ne.symm hx.2.2.2.2.1)).trans f.ends, (if_neg (Ne.symm hx.2.2.2.2.2)).trans f.pieces⟩

theorem lo_ext {h₀ h1 h2 : Heap} {L I pa ea P : Addr} {m : Str → Option Value} {own : List (Addr × Obj)} {ps : Array Value} {oI op oe : Obj} {qual : Str} (F : Fr h₀ L h1 m) (N : News h₀ L h1 ((I, oI) :: (pa, op) :: (ea, oe) :: (P, tabObj ps) :: own)) (ext : Ext P h1 h2) (tab : TabOk h2 qual P)
    (off : OwnOff own [pa, ea, P, I]) (n2 : @Ne Nat P ea) (n3 : @Ne Nat P pa) (n6 : @Ne Nat I P) : ∃ ps2, Fr h₀ L h2 m ∧ News h₀ L h2 ((I, oI) :: (pa, op) :: (ea, oe) :: (P, tabObj ps2) :: own) := by
  obtain ⟨ps2, hP, _⟩ := tab.ps
  have nP := N _ (.tail _ (.tail _ (.tail _ (.head _))))
  refine ⟨ps2, fr_turn F (fun b o e ne => ext b o ne e) nP.2.1 nP.2.2, ?_⟩
  have g : ∀ p, p ∈ ((I, oI) :: (pa, op) :: (ea, oe) :: (P, tabObj ps) :: own) → p.1 ≠ P → h2.get? p.1 = some p.2 ∧ p.1 ≠ L ∧ h₀.get? p.1 = none := fun p hp ne => ⟨ext _ _ ne (N p hp).1, (N p hp).2⟩
  exact List.forall_mem_cons.mpr ⟨g _ (.head _) n6, List.forall_mem_cons.mpr ⟨g _ (.tail _ (.head _)) (Ne.symm n3), List.forall_mem_cons.mpr ⟨g _ (.tail _ (.tail _ (.head _))) (Ne.symm n2), List.forall_mem_cons.mpr ⟨⟨hP, nP.2⟩,
    fun p hp => g p (.tail _ (.tail _ (.tail _ (.tail _ hp)))) (off p hp P (.tail _ (.tail _ (.head _))))⟩⟩⟩⟩
theorem lo_own {h₀ h : Heap} {L I pa ea P : Addr} {m : Str → Option Value} {own : List (Addr × Obj)} {ps : Array Value} {oI op oe : Obj} {qual : Str} (F : Fr h₀ L h m) (N : News h₀ L h ((I, oI) :: (pa, op) :: (ea, oe) :: (P, tabObj ps) :: own)) (tab : TabOk h qual P)
    (off : OwnOff own [pa, ea, P, I]) (hcI : ¬ Codish oI) (hcp : ¬ Codish op) (hce : ¬ Codish oe) : ∃ own', News h₀ L h ((I, oI) :: (pa, op) :: (ea, oe) :: (P, tabObj ps) :: own') ∧ OwnOff own' [pa, ea, P, I] ∧ (∀ p ∈ own, p ∈ own') ∧
      OwnTells h₀ own' (fun h2 => h2.get? P = some (tabObj ps) → TabOk h2 qual P) := by
  have hP := N.get (.tail _ (.tail _ (.tail _ (.head _))))
  obtain ⟨ow, n, c, t⟩ := own_tab F hP tab
  refine ⟨own ++ ow, ?_, ?_, fun p hp => List.mem_append_left _ hp, t.mono (fun p hp => List.mem_append_right _ hp) fun _ x => x⟩
  · intro p hp
    simp only [List.mem_cons, List.mem_append] at hp
    rcases hp with e | e | e | e | e | e
    · exact N p (by rw [e]; exact .head _)
    · exact N p (by rw [e]; exact .tail _ (.head _))
    · exact N p (by rw [e]; exact .tail _ (.tail _ (.head _)))
    · exact N p (by rw [e]; exact .tail _ (.tail _ (.tail _ (.head _))))
    · exact N p (.tail _ (.tail _ (.tail _ (.tail _ e))))
    · exact n p e
  · intro p hp b hb
    rcases List.mem_append.mp hp with hp | hp
    · exact off p hp b hb
    · have k := fun (o : Obj) (e : h.get? b = some o) (z : ¬ Codish o) => cod_off (n p hp).1 (c p hp) e z
      simp only [List.mem_cons, List.not_mem_nil, or_false] at hb
      rcases hb with e | e | e | e <;> subst e
      · exact k _ (N.get (.tail _ (.head _))) hcp
      · exact k _ (N.get (.tail _ (.tail _ (.head _)))) hce
      · exact k _ hP (not_cod_tab tab hP)
      · exact k _ (N.get (.head _)) hcI

theorem Road.len_le {n : Nat} {ok : Nat → Nat → Bool} (H : Okay n ok) {a : Nat} {ps : List (Nat × Nat)} (h : Road n ok a ps) : ps.length ≤ a := by
  induction h with
  | nil => exact Nat.le_refl _
  | snoc r hlt f ih =>
    have := f.lt H hlt
    simp only [List.length_append, List.length_cons, List.length_nil]
    omega
theorem lo_tail {w : World} {af : Addr} {cv : Value} {A : Around} {h₀ h : Heap} {s : Shared} {L I pa ea P pr fs fa q : Addr} {mg mb : Str → Option Value} {qual row mod : Str} {t1 t2 tc te : Tok} {ys : List Value} {fw : List Int} {k i tk a : Nat} {oI : Obj} {Q : Flow → Shared → Prop}
    {m : Str → Option Value} {ps : Array Value} {own : List (Addr × Obj)} {eys pvs xs : List Value} {ke kp kq : Nat} {rs : List (Nat × Nat)}
    (hh : A.handled = none) (B : Base w mg mb h₀) (H : Okay 7 (okOf row mod)) (hys : IntsAre ys fw) (hfl : fw.length = 8) (few : FewTo (okOf row mod) fw) (hi : i < 8)
    (F : Fr h₀ L h m) (N : News h₀ L h ((I, oI) :: (pa, W.listOf (pvs.toArray.push (.ref q)) kp) :: (ea, W.listOf (eys.toArray.push (.int (a : Nat) te)) ke) :: (P, tabObj ps) :: own)) (off : OwnOff own [pa, ea, P, I]) (fm : Fm m row mod t1 t2 fa pr ea pa) (mc : m "col" = some (.int i tc))
    (hs : OwnTells h₀ own (fun h2 => Srch h2 fs P mod qual ∧ ProgAt h2 pr fs ∧ h2.get? fa = some (W.listOf ys.toArray k) ∧ GrownAt 30 h2)) (ht : OwnTells h₀ own (fun h2 => h2.get? P = some (tabObj ps) → TabOk h2 (lamQual qual) P))
    (hr : OwnTells h₀ own (fun h2 => ∀ c, c < i → RowAt row mod h2 eys pvs c)) (hle : eys.length = i) (hlp : pvs.length = i) (hq : (q, W.listOf xs.toArray kq) ∈ own) (hx : CarriedAll xs ((txts row rs).map PyData.str)) (hl : Last 7 (okOf row mod) i a rs)
    (hQ : ∀ h' tk', h'.get? I = some oI → LoInv h₀ L I pa ea P pr fs fa qual row mod t1 t2 ys k (i + 1) h' → Q .next { s with heap := h', toks := tk' }) :
    wpAny (model PR w) A (execs loLast (lwEnv af cv L)) Q (fun _ _ => False) { s with heap := h, toks := tk } := by
  rw [List.push_toArray, List.push_toArray] at N
  have hown : ∀ p ∈ own, h.get? p.1 = some p.2 := fun p hp => (N p (.tail _ (.tail _ (.tail _ (.tail _ hp))))).1
  have hfw : fw[i]? = some (fw.getD i 0) := by rw [List.getD_eq_getElem?_getD, List.getElem?_eq_getElem (by omega)]; rfl
  obtain ⟨tf, hf⟩ := hys.get i _ hfw
  have hfi := few_is H (few_of few hfl) i (by omega) a rs hl
  rw [hfi] at hf
  have hlen : xs.length = rs.length := by rw [hx.len]; simp [txts]
  have hn : rs.length ≤ 8 := by have := hl.1.len_le H; have := hl.2.1; omega
  exact lo_end (I := I) (te := te) hh B F N mc fm.fewest fm.ends fm.pieces (N.isList (.tail _ (.head _))) (by rw [← hlp]; simp) ⟨_, hown _ hq, rfl, _, rfl⟩ hlen (N.isList (.tail _ (.tail _ (.head _)))) (by rw [← hle]; simp) ⟨_, (hs.here F hown).2.2.1, rfl, _, rfl⟩ hf (by omega) hn
    fun tk' => hQ h tk' (N.get (.head _)) (LoInv.next F (fun p hp => N p (.tail _ hp)) off fm hs ht hr hle hlp hq hx hl)

theorem news_rot4 {h₀ h : Heap} {L : Addr} {x a b c d : Addr × Obj} {r : List (Addr × Obj)} (N : News h₀ L h (x :: a :: b :: c :: d :: r)) : News h₀ L h (a :: b :: c :: d :: x :: r) := by
  intro p hp
  refine N p ?_
  simp only [List.mem_cons] at hp ⊢
  rcases hp with e | e | e | e | e | e <;> simp [e]
theorem off_cons {own : List (Addr × Obj)} {I pa ea P q : Addr} {o : Obj} (off : OwnOff own [pa, ea, P, I]) (l : @LT.lt Nat _ I q ∧ @LT.lt Nat _ pa q ∧ @LT.lt Nat _ ea q ∧ @LT.lt Nat _ P q) : OwnOff ((q, o) :: own) [pa, ea, P, I] := by
  intro p hp b hb
  rcases List.mem_cons.mp hp with e | hp
  · rw [e]
    simp only [List.mem_cons, List.not_mem_nil, or_false] at hb
    rcases hb with e | e | e | e <;> rw [e] <;> refine Nat.ne_of_gt ?_
    · exact l.2.1
    · exact l.2.2.1
    · exact l.2.2.2
    · exact l.1
  · exact off p hp b hb

theorem lo_turn {w : World} {af : Addr} {cv : Value} {A : Around} {h₀ h : Heap} {s : Shared} {L I pa ea P pr fs fa : Addr} {mg mb : Str → Option Value} {qual row mod : Str} {t1 t2 tc : Tok} {ys : List Value} {fw : List Int} {k i tk : Nat} {oI : Obj} {Q : Flow → Shared → Prop}
    (hh : A.handled = none) (hroom : A.depth + 1 < recursionLimit) (B : Base w mg mb h₀) (hrow : row.length = 7) (H : Okay 7 (okOf row mod)) (hdot : 46 ∉ Ls mod) (hys : IntsAre ys fw) (hfl : fw.length = 8) (few : FewTo (okOf row mod) fw) (hi : i < 8)
    (hI : h.get? I = some oI) (hIL : I ≠ L) (hI0 : h₀.get? I = none) (hcI : ¬ Codish oI) (n1 : @Ne Nat ea pa) (n2 : @Ne Nat P ea) (n3 : @Ne Nat P pa) (n4 : @Ne Nat I pa) (n5 : @Ne Nat I ea) (n6 : @Ne Nat I P)
    (inv : LoInv h₀ L I pa ea P pr fs fa qual row mod t1 t2 ys k i h)
    (hQ : ∀ h' tk', h'.get? I = some oI → LoInv h₀ L I pa ea P pr fs fa qual row mod t1 t2 ys k (i + 1) h' → Q .next { s with heap := h', toks := tk' }) :
    wpAny (model PR w) A (storeName (lwEnv af cv L) "col" (.int (i : Nat) tc)) (fun _ s₂ => wpAny (model PR w) A (execs loBody (lwEnv af cv L)) Q (fun _ _ => False) s₂) (fun _ _ => False) { s with heap := h, toks := tk } := by
  have X : (hd.heap_39 w.params).In h₀ := B.K
  obtain ⟨loose, mean, T⟩ := B.T
  obtain ⟨m, ps, own, eys, ke, pvs, kp, F0, N0, off, fm, hs, ht, hr, hle, hlp⟩ := inv
  have N1 : News h₀ L h ((I, oI) :: (pa, W.listOf pvs.toArray kp) :: (ea, W.listOf eys.toArray ke) :: (P, tabObj ps) :: own) := List.forall_mem_cons.mpr ⟨⟨hI, hIL, hI0⟩, N0⟩
  clear N0 hI
  delta loBody lwBody
  with_unfolding_all (conv => arg 4; ext; ext; arg 3; arg 1; whnf)
  obtain ⟨m1, m2, m3, m4, m5, m6⟩ := id fm
  iterate 6 (walk1 <;> try dsimp only)
  rename_i h1 F1 N1
  have fm1 := fm.set (x := "col") (v := some (.int (i : Nat) tc)) (by decide)
  refine callWith_F ⟨_, _, _, _, F1.keep _ _ (X 21 _ (by k_is))⟩ ?_
  iterate 7 (walk1 <;> try dsimp only)
  have hown1 : ∀ p ∈ own, h1.get? p.1 = some p.2 := fun p hp => (N1 p (.tail _ (.tail _ (.tail _ (.tail _ hp))))).1
  have hP1 := N1.get (.tail _ (.tail _ (.tail _ (.head _))))
  obtain ⟨hS1, hG1, hfa1⟩ := hs.here F1 hown1
  have ht1 := ht.here F1 hown1 hP1
  have hr1 := hr.here F1 hown1
  have hLL : ∀ x ∈ [L], ∃ o, h1.get? x = some o ∧ ∀ vs, o.data ≠ .fields vs := by
    obtain ⟨o, es, ep, g, d, _⟩ := F1.ns
    exact List.forall_mem_cons.mpr ⟨⟨o, g, fun vs => by rw [d]; exact fun z => by cases z⟩, List.forall_mem_nil _⟩
  refine ⟨⟨_, _, _, _, F1.keep _ _ (X 21 _ (by k_is))⟩, wpAny_call (sr_spec (extra := [L]) hh hroom (B.keeps F1.keep) hS1 ht1 hG1 hrow H (by omega) hLL (fun h2 tk2 ext tab last => ?_) fun h2 tk2 q i0 a rs ext tab hit road hi0 far last => ?_)⟩
  · obtain ⟨ps2, F2, N2⟩ := lo_ext F1 N1 ext tab off n2 n3 n6
    obtain ⟨own2, N2', off2, sub, ht2⟩ := lo_own F2 N2 tab off hcI not_cod_list not_cod_list
    have hs2 := hs.mono sub fun _ x => x
    have hr2 := hr.mono sub fun _ x => x
    clear F1 N1 N2 hs ht hr hS1 hG1 hfa1 ht1 hr1 hown1 hP1 hLL tab ext off sub
    dsimp only
    iterate 10 (walk1 <;> try dsimp only)
    iterate 9 (walk1 <;> try dsimp only)
    have hze : eys.toArray.size ≤ sizeLine := by rw [List.size_toArray, hle, sizeLine_eq]; omega
    have hzp : pvs.toArray.size ≤ sizeLine := by rw [List.size_toArray, hlp, sizeLine_eq]; omega
    iterate 15 (walk1 <;> try dsimp only)
    rename_i qn h3 l3 h4 F4 N4
    refine lo_tail (q := qn) (own := (qn, W.listOf #[] 0) :: own2) (xs := []) (rs := []) (a := 0) (eys := eys) (pvs := pvs) (oI := oI) (I := I) hh B H hys hfl few hi F4 (news_rot4 N4) (off_cons off2 ⟨l3.1, l3.2.1, l3.2.2.1, l3.2.2.2.1⟩) ((fm1.set (by decide))) (by rfl) (hs2.mono (fun _ hp => .tail _ hp) fun _ x => x) (ht2.mono (fun _ hp => .tail _ hp) fun _ x => x) (hr2.mono (fun _ hp => .tail _ hp) fun _ x => x) hle hlp (.head _) .nil last hQ
  · obtain ⟨ps2, F2, N2⟩ := lo_ext F1 N1 ext tab off n2 n3 n6
    have hLb : L ∈ [P, L] := .tail _ (.head _)
    clear F1 N1 hS1 hG1 hfa1 ht1 hr1 hown1 hP1 hLL ext
    refine st_sr F2 N2 tab hLb fun h3 F3 N3 tab3 K3 => ?_
    replace hit := K3 _ _ _ hit
    clear F2 N2 tab K3
    iterate 9 (walk1 <;> try dsimp only)
    refine wpAny_execs_cons (span_stmt (by exact hh) (by omega) (B.keeps F3.keep) F3 N3 tab3 hLb hit (by rfl) (fun h4 tk4 ts tb F4 N4 tab4 _ => ?_) (by rfl) (by rfl) (by rfl) (by rfl) (by decide) (by rfl))
    obtain ⟨own2, N4', off2, sub, ht2⟩ := lo_own F4 N4 tab4 off hcI not_cod_list not_cod_list
    have hs2 := hs.mono sub fun _ x => x
    have hr2 := hr.mono sub fun _ x => x
    have fm4 := ((fm1.set (x := "hit") (v := some (.ref q)) (by decide)).set (x := "first") (v := some (.int (i0 : Nat) ts)) (by decide)).set (x := "behind") (v := some (.int (a : Nat) tb)) (by decide)
    clear F3 N3 N4 tab3 tab4 hit hLb hs ht hr off sub
    have hia : i0 < a := far.lt H hi0
    have hai := last.2.1
    have hown4 : ∀ p ∈ own2, h4.get? p.1 = some p.2 := fun p hp => (N4' p (.tail _ (.tail _ (.tail _ (.tail _ hp))))).1
    obtain ⟨a', rs', q', te', l1, l2, l3, l4⟩ := (hr2.here F4 hown4) i0 (by omega)
    obtain ⟨e1, e2⟩ := l1.self H road
    subst e1 e2
    have hpc : OwnTells h₀ own2 (fun h2 => PieceAt h2 q' (txts row rs')) := fun h2 k ho => by
      obtain ⟨a2, r2, q2, te2, z1, z2, z3, z4⟩ := hr2 h2 k ho a' (by omega)
      obtain ⟨y1, y2⟩ := z1.self H road
      subst y1 y2
      rw [l3] at z3; cases z3; exact z4
    iterate 14 (walk1 <;> try dsimp only)
    refine item_litK (N4'.isList (.tail _ (.tail _ (.head _)))) (by omega) (by omega) (by rw [Int.toNat_natCast]; exact l2) ?_ (by with_unfolding_all rfl)
    iterate 5 (walk1 <;> try dsimp only)
    · rename_i z; exact absurd rfl z
    have hlen : row.length ≤ sizeLine := by rw [hrow]; decide
    iterate 15 (walk1 <;> try dsimp only)
    rename_i hl8
    have hd1 : (Str.ofString ".").length = 1 := by rfl
    have hlen2 : (row ++ Str.ofString ".").length ≤ sizeLine := by rw [sizeLine_eq]; omega
    iterate 5 (walk1 <;> try dsimp only)
    have hno : (!(Builtin.Str.occurrences mod (Txt.slice (row ++ Str.ofString ".") (some (a' : Int)) (some ((a : Int) + 1))) 0 mod.length 1).isEmpty) = false := by
      have z := no_more (row := row) (mod := mod) (i := a') (b := a) (by rw [hrow]; exact far) (by omega) hdot
      unfold Txt.contains at z
      rw [show Str.ofString "." = ⟨#[46]⟩ from by rfl, show ((a : Int) + 1) = ((a + 1 : Nat) : Int) by omega]
      exact z
    rw [hno]
    refine wpAny_truthy_bool ?_
    rw [if_neg (by decide)]
    iterate 3 (walk1 <;> try dsimp only)
    have hze : eys.toArray.size ≤ sizeLine := by rw [List.size_toArray, hle, sizeLine_eq]; omega
    have hzp : pvs.toArray.size ≤ sizeLine := by rw [List.size_toArray, hlp, sizeLine_eq]; omega
    iterate 21 (walk1 <;> try dsimp only)
    rename_i h6 F6 N6
    refine item_litK (N6.isList (.tail _ (.head _))) (by omega) (by omega) (by rw [Int.toNat_natCast]; exact l3) ?_ (by with_unfolding_all rfl)
    iterate 13 (walk1 <;> try dsimp only)
    rename_i tsl _ _ D h7 F7 N7 l7
    obtain ⟨xs, kx, lx, cx⟩ := hpc.here F7 fun p hp => (N7 p (.tail _ (.tail _ (.tail _ (.tail _ (.tail _ hp)))))).1
    have hxs : xs.length ≤ 8 := by
      have := road.len_le H
      rw [cx.len]; simp only [txts, List.length_map]; omega
    refine add_lists F7 N7 ⟨_, lx, rfl, _, rfl⟩ (N7.isList (.head _)) (fun h8 F8 N8 => ?_) (by rw [sizeLine_eq]; simp only [List.length_cons, List.length_nil]; omega)
    have lt7 := news_lt N7
    k_lt lt7
    have lown : AllLt h7.objs.size own2 := allLt_of fun p hp => news_lt N7 p (.tail _ (.tail _ (.tail _ (.tail _ (.tail _ hp)))))
    dsimp only at N8 ⊢
    generalize h7.objs.size = qn at *
    replace N8 : News h₀ L h8 ((qn, W.listOf (xs ++ [Value.str (Txt.slice row (some (a' : Int)) (some (a : Int))) tsl]).toArray 0) :: (I, oI) :: (pa, W.listOf pvs.toArray kp) :: (ea, W.listOf (eys.toArray.push (Value.int (a : Int) tb)) (ke + 1)) :: (P, tabObj ps2) :: own2) := fun p hp => N8 p (by
      rcases List.mem_cons.mp hp with e | hp
      · rw [e]; exact .head _
      · exact .tail _ (.tail _ hp))
    clear N7 F7
    iterate 3 (walk1 <;> try dsimp only)
    rename_i h9 F9 N9
    refine lo_tail (q := qn) (own := (qn, W.listOf (xs ++ [Value.str (Txt.slice row (some (a' : Int)) (some (a : Int))) tsl]).toArray 0) :: own2) (xs := _) (rs := rs' ++ [(a', a)]) (a := a) (eys := eys) (pvs := pvs) (oI := oI) (I := I) hh B H hys hfl few hi F9 (news_rot4 N9) (off_cons off2 ⟨lt7.2.1, lt7.2.2.1, lt7.2.2.2.1, lt7.2.2.2.2.1⟩) fm4 (by rfl) (hs2.mono (fun _ hp => .tail _ hp) fun _ x => x) (ht2.mono (fun _ hp => .tail _ hp) fun _ x => x) (hr2.mono (fun _ hp => .tail _ hp) fun _ x => x) hle hlp (.head _) ?_ last hQ
    rw [txts, List.map_append, List.map_append]
    exact cx.appendLM (.cons (.str _ _) .nil)
end Mine

namespace Mine
set_option maxRecDepth 100000
set_option maxHeartbeats 1000000
theorem markLo4 : True := by w_top off; trivial
open PySem PySem.W PyProof.Rows PySem.Calls PySem.Spec
theorem fillLo4 : (fun (_ : PySem.W.OpenLaw) (_ : Params → Frag) => True) PySem.Challenge.rw_pg0001_01 Mine.hd.heap_39 := by k_fill; trivial
local macro_rules | `(tactic| walk_at "eval Name") => `(tactic| (k_dflt (refine' nameX_L ?F ?v ?_ ?a ?b; (case F => k_asm); (case a => rfl); (case b => rfl); (case v => first | with_reducible assumption | ((try dsimp only); repeat (first | with_reducible assumption | exact if_pos rfl | refine Eq.trans (if_neg (by decide)) ?_)) | with_reducible rfl); k_whole)))
def lwEnd : List Stmt := lwBody.drop 8

theorem lw_loop {w : World} {af : Addr} {cv : Value} {A : Around} {h₀ h : Heap} {s : Shared} {L pa ea P pr fs fa : Addr} {mg mb : Str → Option Value} {qual row mod : Str} {t1 t2 : Tok} {ys : List Value} {fw : List Int} {k tk : Nat} {Q : Flow → Shared → Prop} {m : Str → Option Value} {own : List (Addr × Obj)}
    (hh : A.handled = none) (hroom : A.depth + 1 < recursionLimit) (B : Base w mg mb h₀) (hrow : row.length = 7) (H : Okay 7 (okOf row mod)) (hdot : 46 ∉ Ls mod) (hys : IntsAre ys fw) (hfl : fw.length = 8) (few : FewTo (okOf row mod) fw)
    (n1 : @Ne Nat ea pa) (n2 : @Ne Nat P ea) (n3 : @Ne Nat P pa) (F : Fr h₀ L h m) (N : News h₀ L h ((pa, W.listOf #[] 0) :: (ea, W.listOf #[] 0) :: (P, tabObj #[]) :: own)) (fm : Fm m row mod t1 t2 fa pr ea pa) (off : ∀ p ∈ own, p.1 ≠ P ∧ p.1 ≠ ea ∧ p.1 ≠ pa)
    (hs : ∀ h2 : Heap, (∀ p ∈ own, h2.get? p.1 = some p.2) → Srch h2 fs P mod qual ∧ ProgAt h2 pr fs ∧ h2.get? fa = some (W.listOf ys.toArray k) ∧ GrownAt 30 h2)
    (hQ : ∀ h' tk' I, LoInv h₀ L I pa ea P pr fs fa qual row mod t1 t2 ys k 8 h' → wpAny (model PR w) A (execs lwEnd (lwEnv af cv L)) Q (fun _ _ => False) { s with heap := h', toks := tk' }) :
    wpAny (model PR w) A (execs lwLoop (lwEnv af cv L)) Q (fun _ _ => False) { s with heap := h, toks := tk } := by
  have X : (hd.heap_39 w.params).In h₀ := B.K
  obtain ⟨loose, mean, T⟩ := B.T
  have hlen : row.length ≤ sizeLine := by rw [hrow]; decide
  obtain ⟨m1, m2, m3, m4, m5, m6⟩ := id fm
  delta lwLoop lwBody
  with_unfolding_all (conv => arg 3; arg 1; whnf)
  refine wpAny_execs_cons (wpAny_For ?_ (by intro _; rfl))
  iterate 16 (walk1 <;> try dsimp only)
  rename_i h3 _ _ _ _ hr F3 N3 l3
  rw [hrow] at hr
  refine wpAny_pyIter_range hr (by decide) ?_
  have F4 := F3.push { cls := .type "range_iterator", data := .fields #[rawInt 0, rawInt 8, rawInt 1] }
  have N4 : News h₀ L (h3.push { cls := .type "range_iterator", data := .fields #[rawInt 0, rawInt 8, rawInt 1] }) _ := fun p hp => ⟨Heap.get?_push_of_some _ (N3 p hp).1, (N3 p hp).2⟩
  have hI := news_lt N3
  have hLI : @LT.lt Nat _ L h3.objs.size := F3.ns.lt
  have hIn : h₀.get? h3.objs.size = none := Heap.get?_none_of_le (Nat.le_trans F3.above (Nat.le_of_lt hLI))
  have hst : IsRangeIter (h3.push { cls := .type "range_iterator", data := .fields #[rawInt 0, rawInt 8, rawInt 1] }) h3.objs.size (0 + (0 : Nat) * 1) (((8 : Nat) : Int) - (0 : Nat)) 1 := Heap.get?_push_size _ rfl
  have lown : ∀ p ∈ own, p.1 ≠ h3.objs.size := fun p hp => Nat.ne_of_lt (hI p (.tail _ (.tail _ (.tail _ hp))))
  k_lt hI
  dsimp only
  show codeAny _ _ _ _ { s with heap := h3.push { cls := .type "range_iterator", data := .fields #[rawInt 0, rawInt 8, rawInt 1] }, toks := _ }
  generalize h3.push { cls := .type "range_iterator", data := .fields #[rawInt 0, rawInt 8, rawInt 1] } = h4 at F4 N4 hst ⊢
  generalize h3.objs.size = I at *
  clear F3 N3 hr
  have q1 : @Ne Nat I pa := by omega
  have q2 : @Ne Nat I ea := by omega
  have q3 : @Ne Nat I P := by omega
  have qL : @Ne Nat I L := by omega
  refine forLoop_H (s := ⟨h4, _, _, _, _⟩) (LCg.range_walks hh 0 8) (LoInv h₀ L I pa ea P pr fs fa qual row mod t1 t2 ys k) hst ?_ ?_ ?_ ?_ PassesOwn.never
  · refine ⟨m, #[], own, [], 0, [], 0, F4, N4, ?_, fm, fun h2 _ ho => hs h2 ho, fun h2 _ _ e => .inl e, fun h2 _ _ c hc => absurd hc (Nat.not_lt_zero c), rfl, rfl⟩
    intro p hp b hb
    simp only [List.mem_cons, List.not_mem_nil, or_false] at hb
    rcases hb with e | e | e | e <;> subst e
    · exact (off p hp).2.2
    · exact (off p hp).2.1
    · exact (off p hp).1
    · exact lown p hp
  · rintro i h h' ⟨m, ps, own, eys, ke, pvs, kp, Fi, Ni, off, r⟩ hk
    exact ⟨m, ps, own, eys, ke, pvs, kp, LCg.fr_but Fi hk (Ne.symm qL) hIn, LCg.news_but Ni hk (List.forall_mem_cons.mpr ⟨Ne.symm q1, List.forall_mem_cons.mpr ⟨Ne.symm q2, List.forall_mem_cons.mpr ⟨Ne.symm q3, fun p hp => off p hp I (.tail _ (.tail _ (.tail _ (.head _))))⟩⟩⟩), off, r⟩
  · rintro i v h5 tk5 hi ⟨tv, rfl⟩ inv st
    rw [Int.zero_add]
    exact lo_turn hh hroom B hrow H hdot hys hfl few hi st qL hIn (fun ⟨vs, q, t, e, e'⟩ => by cases e; cases e') n1 n2 n3 q1 q2 q3 inv fun h' tk' e inv' => ⟨h', tk', rfl, e, inv'⟩
  · intro h5 tk5 inv
    exact hQ h5 tk5 I inv
end Mine

namespace Mine
set_option maxRecDepth 100000
theorem markMapK : True := by w_top off; trivial
open PySem PySem.W PyProof.Rows PySem.Calls PySem.Spec
open AutoSeq1 (wpAny_loadPart')

theorem map_owner : Manifest.owners.lookup (String.ofList ['p', 'a', 'm'].reverse) = some Manifest.sig_map := by kernel_rfl
theorem map_slot_init : Slot "map" "__init__" "object.__init__" :=
  .of (owner := "object") (n := "__init__") (by rw [typeLookup_type, builtinLookup_eq_fast]; kernel_rfl) (by decide +kernel) (by decide +kernel) (by decide +kernel)
    (by first | exact .inl (by decide +kernel) | exact .inr (by decide +kernel)) (by rw [isSubtype_type]; kernel_rfl)
theorem map_slot_iter : Slot "map" "__iter__" "map.__iter__" :=
  .of (owner := "map") (n := "__iter__") (by rw [typeLookup_type, builtinLookup_eq_fast]; kernel_rfl) (by decide +kernel) (by decide +kernel) (by decide +kernel)
    (by first | exact .inl (by decide +kernel) | exact .inr (by decide +kernel)) (by rw [isSubtype_type]; kernel_rfl)
theorem map_args_iter (a : Value) : argsOk "map.__iter__" ⟨[a], []⟩ := by
  unfold argsOk; rw [signature?_of (id := "map.__iter__") (n := ['_', '_', 'r', 'e', 't', 'i', '_', '_']) (o := ['p', 'a', 'm']) (by kernel_rfl) map_owner]; kernel_rfl
theorem map_slot_next : Slot "map" "__next__" "map.__next__" :=
  .of (owner := "map") (n := "__next__") (by rw [typeLookup_type, builtinLookup_eq_fast]; kernel_rfl) (by decide +kernel) (by decide +kernel) (by decide +kernel)
    (by first | exact .inl (by decide +kernel) | exact .inr (by decide +kernel)) (by rw [isSubtype_type]; kernel_rfl)
theorem map_entry_next : entryFor table "map.__next__" = some Builtin.«map.__next__» := entryFor_of_tree (by kernel_rfl)
theorem map_args_next (a : Value) : argsOk "map.__next__" ⟨[a], []⟩ := by
  unfold argsOk; rw [signature?_of (id := "map.__next__") (n := ['_', '_', 't', 'x', 'e', 'n', '_', '_']) (o := ['p', 'a', 'm']) (by kernel_rfl) map_owner]; kernel_rfl
theorem map_entry_iter : entryFor table "map.__iter__" = some Builtin.«dict_keyiterator.__iter__» :=
  entryFor_alias (id' := "dict_keyiterator.__iter__") (by kernel_rfl) (by first | rfl | decide +kernel | (unfold String.splitOn; simp +decide [String.splitOnAux])) (by decide +kernel) (by kernel_rfl)
theorem map_mro : mroOf (.type "map") = pure [.type "map", .type "object"] := by rw [mroOf_type]; kernel_rfl
theorem map_lookup_new : typeLookup (.type "map") "__new__" = pure (some (.builtin "map.__new__")) := by rw [typeLookup_type, builtinLookup_eq_fast]; kernel_rfl
theorem map_called : TypeCalled "map" "map.__new__" "object.__init__" :=
  ⟨by decide +kernel, by decide +kernel, ⟨_, _, map_mro⟩, madeBy_type map_mro map_lookup_new (by decide +kernel), by decide +kernel, by rw [isSubtype_type]; kernel_rfl, map_slot_init⟩
theorem map_typeCall (a b : Value) : checkTypeCall "map" ⟨[a, b], []⟩ = pure () := by kernel_rfl
theorem map_newCall (a b : Value) : checkBuiltinCall "map.__new__" ⟨[.type "map", a, b], []⟩ = pure () := by kernel_rfl
theorem map_entry_new : entryFor table "map.__new__" = some Builtin.«map.__new__» := entryFor_of_tree (by kernel_rfl)
theorem map_sub : isSubtype (.type "map") (.type "map") = pure true := by rw [isSubtype_type]; kernel_rfl

abbrev mapObj (tu : Addr) : Obj := { cls := .type "map", dict := none, data := .fields #[.ref tu, .type "int"], slots := #[] }
abbrev oneObj (it : Addr) : Obj := { cls := .type "tuple", data := .seq #[.ref it] }
abbrev mapH1 (h : Heap) (l : Addr) : Heap := h.push { cls := .type "list_iterator", data := .fields #[.ref l, .int 0 0] }
abbrev mapH2 (h : Heap) (l : Addr) : Heap := (mapH1 h l).push (oneObj h.objs.size)
abbrev mapH3 (h : Heap) (l : Addr) : Heap := (mapH2 h l).push (mapObj (mapH1 h l).objs.size)

theorem meets_map_new (l : Addr) (xs : Array Value) :
    Meets (Builtin.«map.__new__» ⟨[.type "map", .type "int", .ref l], []⟩) (fun _ R s => s.heap.IsList l xs ∧
      R (.ok (.ret (.ref (mapH2 s.heap l).objs.size))) { s with heap := mapH3 s.heap l }) :=
  .of_wp fun prog w A R s h => by
    obtain ⟨hp, g, d, tk, os⟩ := s; obtain ⟨hl1, h⟩ := h
    have hsub := map_sub
    have hL1 : Heap.IsList (Shared.heap ⟨hp, g, d, tk, os⟩) l xs := hl1
    wp_walk using wpAny_pyIter_list hL1
    exact ⟨_, rfl, h⟩

section
variable {prog : Program} {w : World} {A : Around} {E : Value → Shared → Prop} {s : Shared}

theorem call_map {l : Addr} {xs : Array Value} {Q : Value → Shared → Prop} (hl : s.heap.IsList l xs)
    (h : ∀ h', h'.get? (s.heap.objs.size + 2) = some (mapObj (s.heap.objs.size + 1)) → h'.get? (s.heap.objs.size + 1) = some (oneObj s.heap.objs.size) → h'.IsListIter s.heap.objs.size l 0 → h'.objs.size = s.heap.objs.size + 3 →
      (∀ c o, s.heap.get? c = some o → h'.get? c = some o) → Q (.ref (s.heap.objs.size + 2)) { s with heap := h' }) :
    wpAny (model prog w) A (call (.type "map") [.type "int", .ref l]) Q E s := by
  refine callType_new map_called (by decide) (map_typeCall _ _) (map_newCall _ _) (fun obj => F.args_object_init_3 obj _ _) map_entry_new (meets_map_new l xs) ⟨hl, ?_⟩
  have z1 : (mapH1 s.heap l).objs.size = s.heap.objs.size + 1 := Heap.size_push ..
  have z2 : (mapH2 s.heap l).objs.size = s.heap.objs.size + 2 := by rw [Heap.size_push, z1]
  have z3 : (mapH3 s.heap l).objs.size = s.heap.objs.size + 3 := by rw [Heap.size_push, z2]
  have g3 : (mapH3 s.heap l).get? (mapH2 s.heap l).objs.size = some (mapObj (mapH1 s.heap l).objs.size) := Heap.get?_push_size _ rfl
  have g2 : (mapH3 s.heap l).get? (mapH1 s.heap l).objs.size = some (oneObj s.heap.objs.size) := Heap.get?_push_of_some _ (Heap.get?_push_size _ rfl)
  have g1 : (mapH3 s.heap l).get? s.heap.objs.size = some _ := Heap.get?_push_of_some _ (Heap.get?_push_of_some _ (Heap.get?_push_size _ rfl))
  show _ ∧ _
  rw [z1, z2] at g3
  rw [z1] at g2
  rw [z2]
  exact ⟨⟨_, g3, rfl⟩, h _ g3 g2 ⟨_, g1, rfl, rfl⟩ z3 fun c o x => Heap.get?_push_of_some _ (Heap.get?_push_of_some _ (Heap.get?_push_of_some _ x))⟩

theorem map_next_item {z tu it l : Addr} {k : Nat} {xs : Array Value} {n : Int} {t : Tok} {Q : Value → Shared → Prop} (hz : s.heap.get? z = some (mapObj tu)) (ht : s.heap.get? tu = some (oneObj it)) (hzi : z ≠ it)
    (h1 : s.heap.IsListIter it l k) (hl : s.heap.IsList l xs) (hx : xs[k]? = some (.str (Str.ofString (toString n)) t)) (h0 : 0 ≤ n) (hn : n < 10 ^ 10)
    (hQ : ∀ h', h'.IsListIter it l (k + 1) → Heap.SameBut it s.heap h' → Q (.int n s.toks) { s with heap := h', toks := s.toks + 1 }) :
    wpAny (model prog w) A (Builtin.«map.__next__» ⟨[.ref z], []⟩) (fun fin s' => ∃ v, fin = .done (.ret v) ∧ Q v s') E s := by
  show wpAny _ _ (field (.ref z) 0 >>= _) _ _ _
  refine wpAny_bind (wpAny_field hz rfl (x := .ref tu) rfl ?_)
  refine wpAny_bind (wpAny_seqItems ht rfl ?_)
  dsimp only
  rw [List.forIn_toArray]
  simp only [List.forIn_cons, List.forIn_nil]
  refine wpAny_bind (wpAny_bind (wpAny_bind (wpAny_holding (wpAny_nextOf_list_item h1 hl hx fun h₁ h1₁ hs₁ => wpAny_pure (wpAny_pure ?_)))))
  refine wpAny_bind (wpAny_field (hs₁.extBut _ _ hzi hz) rfl (x := .type "int") rfl ?_)
  refine wpAny_bind (wpAny_holding (KIN.call_num h0 hn ?_))
  refine wpAny_bind (wpAny_letGo (wpAny_pure ⟨_, rfl, hQ h₁ h1₁ hs₁⟩))

theorem map_next_end {z tu it l : Addr} {k : Nat} {xs : Array Value} {Q : Fin → Shared → Prop} (hh : A.handled = none) (hz : s.heap.get? z = some (mapObj tu)) (ht : s.heap.get? tu = some (oneObj it))
    (h1 : s.heap.IsListIter it l k) (hl : s.heap.IsList l xs) (hx : xs[k]? = none)
    (hE : ∀ h' e, Heap.ExtBut it s.heap h' → (∃ o, h'.get? e = some o ∧ o.cls = .type "StopIteration") → E (.ref e) { s with heap := h' }) :
    wpAny (model prog w) A (Builtin.«map.__next__» ⟨[.ref z], []⟩) Q E s := by
  show wpAny _ _ (field (.ref z) 0 >>= _) _ _ _
  refine wpAny_bind (wpAny_field hz rfl (x := .ref tu) rfl ?_)
  refine wpAny_bind (wpAny_seqItems ht rfl ?_)
  dsimp only
  rw [List.forIn_toArray]
  simp only [List.forIn_cons, List.forIn_nil]
  exact wpAny_bind (wpAny_bind (wpAny_bind (wpAny_holding (wpAny_nextOf_list_end hh h1 hl hx fun h₁ e he ho => hE h₁ e he ho))))

theorem map_pyNext_item {z tu it l : Addr} {k : Nat} {xs : Array Value} {n : Int} {t : Tok} {Q : Option Value → Shared → Prop} (hz : s.heap.get? z = some (mapObj tu)) (ht : s.heap.get? tu = some (oneObj it)) (hzi : z ≠ it)
    (h1 : s.heap.IsListIter it l k) (hl : s.heap.IsList l xs) (hx : xs[k]? = some (.str (Str.ofString (toString n)) t)) (h0 : 0 ≤ n) (hn : n < 10 ^ 10)
    (hQ : ∀ h', h'.IsListIter it l (k + 1) → Heap.SameBut it s.heap h' → Q (some (.int n s.toks)) { s with heap := h', toks := s.toks + 1 }) :
    wpAny (model prog w) A (pyNext (.ref z)) Q E s := by
  have hT : s.TypeIs (.ref z) "map" := ⟨_, hz, rfl⟩
  unfold pyNext
  exact wpAny_bind (wpAny_attempt (wpAny_callSpecial?_slot (name := Str.ofString "__next__") hT map_slot_next
    (wpAny_call_entry map_slot_next hT map_entry_next (map_next_item hz ht hzi h1 hl hx h0 hn fun h' a b => wpAny_pure (hQ h' a b)) (map_args_next _))))

theorem map_pyNext_end {z tu it l : Addr} {k : Nat} {xs : Array Value} {Q : Option Value → Shared → Prop} (hh : A.handled = none) (hz : s.heap.get? z = some (mapObj tu)) (ht : s.heap.get? tu = some (oneObj it))
    (h1 : s.heap.IsListIter it l k) (hl : s.heap.IsList l xs) (hx : xs[k]? = none)
    (hQ : ∀ h', Heap.ExtBut it s.heap h' → Q none { s with heap := h' }) : wpAny (model prog w) A (pyNext (.ref z)) Q E s := by
  have hT : s.TypeIs (.ref z) "map" := ⟨_, hz, rfl⟩
  unfold pyNext
  refine wpAny_bind (wpAny_attempt (wpAny_callSpecial?_slot (name := Str.ofString "__next__") hT map_slot_next
    (wpAny_call_entry map_slot_next hT map_entry_next (map_next_end hh hz ht h1 hl hx fun h' e hk he => ?_) (map_args_next _))))
  obtain ⟨o, ho, hc⟩ := he
  refine wpAny_bind (wpAny_isInstance (T := "StopIteration") (b := true) ⟨o, ho, hc⟩ isSubtype_stop ?_)
  exact wpAny_pure (hQ _ hk)

theorem map_pyIter {z tu : Addr} {Q : Value → Shared → Prop} (hz : s.heap.get? z = some (mapObj tu)) (h : Q (.ref z) s) : wpAny (model prog w) A (pyIter (.ref z)) Q E s := by
  have hT : s.TypeIs (.ref z) "map" := ⟨_, hz, rfl⟩
  refine wpAny_pyIter_slot hT map_slot_iter (wpAny_call_entry map_slot_iter hT map_entry_iter ?_ (map_args_iter _))
  show wpAny _ _ (ret (.ref z)) _ _ s
  exact wpAny_pure ⟨_, rfl, "map", _, hT, map_slot_next.lookup, h⟩

/-- two numbers, told by a map over a list of two texts -/
theorem map_unpack2 {z tu it l : Addr} {a b : Int} {t u : Tok} {Q : List Value → Shared → Prop} (hh : A.handled = none) (hz : s.heap.get? z = some (mapObj tu)) (ht : s.heap.get? tu = some (oneObj it)) (hzi : z ≠ it) (hti : tu ≠ it) (hli : l ≠ it)
    (h1 : s.heap.IsListIter it l 0) (hl : s.heap.IsList l #[.str (Str.ofString (toString a)) t, .str (Str.ofString (toString b)) u]) (a0 : 0 ≤ a) (ha : a < 10 ^ 10) (b0 : 0 ≤ b) (hb : b < 10 ^ 10)
    (hQ : ∀ h' ta tb tk, Heap.ExtBut it s.heap h' → Q [.int a ta, .int b tb] { s with heap := h', toks := tk }) :
    wpAny (model prog w) A (unpackItems (.ref z) 2 none) Q E s := by
  have hT : s.TypeIs (.ref z) "map" := ⟨_, hz, rfl⟩
  unfold unpackItems
  refine wpAny_bind ?_
  unfold notIterableAtAll
  refine wpAny_bind (wpAny_specialOf hT map_slot_iter.lookup ?_)
  refine wpAny_pure ?_
  simp only [Bool.false_eq_true, if_false]
  refine wpAny_bind (wpAny_holding (map_pyIter hz ?_))
  refine wpAny_bind (wpAny_holding ?_)
  show wpAny _ _ (pyNext (.ref z) >>= _) _ _ _
  refine wpAny_bind (map_pyNext_item hz ht hzi h1 hl rfl a0 ha fun h₁ i₁ s₁ => ?_)
  refine wpAny_bind (wpAny_holding ?_)
  show wpAny _ _ (pyNext (.ref z) >>= _) _ _ _
  refine wpAny_bind (map_pyNext_item (s := ⟨h₁, _, _, _, _⟩) (s₁.extBut _ _ hzi hz) (s₁.extBut _ _ hti ht) hzi i₁ (hl.extBut s₁.extBut hli) rfl b0 hb fun h₂ i₂ s₂ => ?_)
  refine wpAny_bind (wpAny_holding ?_)
  show wpAny _ _ (pure []) _ _ _
  refine wpAny_pure (wpAny_pure (wpAny_pure ?_))
  rw [if_neg (by simp)]
  have k : Heap.ExtBut it s.heap h₂ := fun c o hc e => s₂.extBut _ _ hc (s₁.extBut _ _ hc e)
  refine wpAny_bind (wpAny_holding (map_pyNext_end hh (k _ _ hzi hz) (k _ _ hti ht) i₂ (hl.extBut k hli) rfl fun h₃ k₃ => ?_))
  simp only [Option.isSome_none, Bool.false_eq_true, if_false]
  exact wpAny_pure (hQ h₃ _ _ _ fun c o hc e => k₃ _ _ hc (k _ _ hc e))
end
end Mine

namespace Mine
set_option maxRecDepth 100000
set_option maxHeartbeats 1000000
theorem markGl : True := by w_top off; trivial
open PySem PySem.W PyProof.Rows PySem.Calls PySem.Spec
theorem fillGl : (fun (_ : PySem.W.OpenLaw) (_ : Params → Frag) => True) PySem.Challenge.rw_pg0001_01 Mine.hd.heap_39 := by k_fill; trivial
local macro_rules | `(tactic| walk_at "eval Name") => `(tactic| (k_dflt (refine' nameX_L ?F ?v ?_ ?a ?b; (case F => k_asm); (case a => rfl); (case b => rfl); (case v => first | with_reducible assumption | ((try dsimp only); repeat (first | with_reducible assumption | exact if_pos rfl | refine Eq.trans (if_neg (by decide)) ?_)) | with_reducible rfl); k_whole)))

def glParts : Arguments × List Stmt × Scope × Pos := partsOf (topDef 2)
def glBody : List Stmt := glParts.2.1
def glScope : Scope := glParts.2.2.1
abbrev glEnv (L : Addr) : Env := envX "get_line_col" glScope L 28 (.ref 27) []
abbrev num (n : Nat) : Str := Str.ofString (toString (n : Int))
theorem split_num : ∀ p, p < 8 → ∀ q, q < 8 → Txt.split (num p ++ Str.ofString "." ++ num q) (Str.ofString ".") = [num p, num q] := by decide +kernel

theorem len_num : ∀ p, p < 8 → ∀ q, q < 8 → (num p ++ Str.ofString "." ++ num q).length = 3 := by decide +kernel

theorem assign_Tuple_map {prog : Program} {w : World} {A : Around} {E : Value → Shared → Prop} {s : Shared} {env : Env} {elts : List Expr} {k0 : Tok} {pos : Pos} {z tu it l : Addr} {a b : Int} {t u : Tok} {Q : Unit → Shared → Prop} (hh : A.handled = none) (hz : s.heap.get? z = some (mapObj tu)) (ht : s.heap.get? tu = some (oneObj it)) (hzi : z ≠ it) (hti : tu ≠ it) (hli : l ≠ it)
    (h1 : s.heap.IsListIter it l 0) (hl : s.heap.IsList l #[.str (Str.ofString (toString a)) t, .str (Str.ofString (toString b)) u]) (a0 : 0 ≤ a) (ha : a < 10 ^ 10) (b0 : 0 ≤ b) (hb : b < 10 ^ 10)
    (hn : (assignEach elts env).length = 2) (hstar : (assignEach elts env).findIdx? (·.1) = none)
    (h : ∀ h' ta tb tk, Heap.ExtBut it s.heap h' → wpAny (model prog w) A (assignInOrder ((assignEach elts env).map (·.2)) [.int a ta, .int b tb]) Q E { s with heap := h', toks := tk }) :
    wpAny (model prog w) A (assign (.Tuple elts k0 pos) env (.ref z)) Q E s := by
  rw [PyProof.Rows.assign_Tuple]
  refine wpAny_bind (wpAny_standAt ?_)
  unfold unpack
  rw [hn, hstar]
  exact wpAny_bind (wpAny_holding (map_unpack2 hh hz ht hzi hti hli h1 hl a0 ha b0 hb h))

theorem gl_enter {w : World} {A : Around} {R : Result → Shared → Prop} {s : Shared} {mg mb : Str → Option Value} {v₁ : Value}
    (hroom : A.depth < recursionLimit) (B : Base w mg mb s.heap)
    (h : ∀ h₁ tk, Fr s.heap s.heap.objs.size h₁ (fun x => ([("index", v₁)] : List (Str × Value)).reverse.lookup x) → News s.heap s.heap.objs.size h₁ [] →
      wpAny (model PR w) (A.deeper (glEnv s.heap.objs.size)) (execs glBody (glEnv s.heap.objs.size)) (fun fl s' => R (.ok (.ret (match fl with | .ret v => v | _ => .none))) s') (fun _ _ => False) { s with heap := h₁, toks := tk }) :
    codeAny (model PR w) A (.call (.ref 28) ⟨[v₁], []⟩) R s := by
  obtain ⟨loose, mean, T⟩ := B.T
  have X : (hd.heap_39 w.params).In s.heap := B.K
  refine codeAny_call_def (binds := [("index", v₁)]) hroom (X 28 _ (by k_is)) rfl T.nolimit (codeRec_of X (by k_is)) rfl (BindsTo.of_eq (by rfl)) (by decide) (locs (by rfl)) (fun h₁ hns hk₁ => ?_) (by rfl) (by rfl) (by rfl)
  have F : Fr s.heap s.heap.objs.size h₁ (fun x => ([("index", v₁)] : List (Str × Value)).reverse.lookup x) := ⟨hns, hk₁, Nat.le_refl _⟩
  exact wpAny_mono (h h₁ _ F News.nil) (fun _ _ x => x) fun _ _ x => x.elim

theorem gl_body {w : World} {A : Around} {h₀ h : Heap} {s : Shared} {L : Addr} {mg mb : Str → Option Value} {p q : Nat} {t : Tok} {tk : Nat} {Q : Flow → Shared → Prop}
    (hh : A.handled = none) (B : Base w mg mb h₀) (F : Fr h₀ L h (fun x => ([("index", .str (num p ++ Str.ofString "." ++ num q) t)] : List (Str × Value)).reverse.lookup x)) (N : News h₀ L h []) (hp : p < 8) (hq : q < 8)
    (hQ : ∀ h' tk tu ta tb, (∀ b o, h₀.get? b = some o → h'.get? b = some o) → h₀.get? tu = none → h'.get? tu = some { cls := .type "tuple", data := .seq #[.int p ta, .int q tb] } → Q (.ret (.ref tu)) { s with heap := h', toks := tk }) :
    wpAny (model PR w) A (execs glBody (glEnv L)) Q (fun _ _ => False) { s with heap := h, toks := tk } := by
  have X : (hd.heap_39 w.params).In h₀ := B.K
  obtain ⟨loose, mean, T⟩ := B.T
  have hlx := len_num p hp q hq
  have hlz : (num p ++ Str.ofString "." ++ num q).length ≤ sizeLine := by rw [hlx]; decide
  have hsp := split_num p hp q hq
  delta glBody
  with_unfolding_all (conv => arg 3; arg 1; whnf)
  iterate 16 (walk1 <;> try dsimp only)
  rename_i l h1 _ e _ _ hl F1 N1
  rw [hsp] at e
  obtain ⟨ta, l1, hl1, e1⟩ := KSpl.cons_of e
  obtain ⟨tb, l2, hl2, e2⟩ := KSpl.cons_of e1
  have hl3 := KSpl.nil_of e2
  subst hl3 hl2 hl1
  have hL : @LT.lt Nat _ L h.objs.size := by rename Fr h₀ L h _ => F0; exact F0.ns.lt
  iterate 1 (walk1 <;> try dsimp only)
  refine call_map hl fun h2 z1 z2 z3 z4 z5 => ?_
  dsimp only at hl z1 z2 z3 z4 z5 ⊢
  have hh1 : @LT.lt Nat _ h.objs.size h1.objs.size := by obtain ⟨o, e, _⟩ := hl; exact Heap.lt_size e
  refine assign_Tuple_map (a := p) (b := q) hh z1 z2 (neN (by omega)) (neN (by omega)) (neN (by omega)) z3 (hl.at fun o e => z5 _ o e) (by omega) (by omega) (by omega) (by omega) (by rfl) (by rfl) fun h3 ua ub tk3 e3 => ?_
  have k3 : ∀ b o, h1.get? b = some o → h3.get? b = some o := fun b o e => e3 b o (Nat.ne_of_lt (Heap.lt_size e)) (z5 b o e)
  obtain ⟨F3, N3⟩ := after_keep F1 N1 k3
  clear F1 N1 z1 z2 z3 z4 z5 e3 k3 hl
  refine assignInOrder_cons (wpAny_assign_Name ?_)
  iterate 1 (walk1 <;> try dsimp only)
  refine assignInOrder_cons (wpAny_assign_Name ?_)
  iterate 1 (walk1 <;> try dsimp only)
  refine assignInOrder_nil ?_
  iterate 10 (walk1 <;> try dsimp only)
  rename_i tu h5 F5 N5 _
  exact hQ h5 _ tu ua ub F5.keep (N5 _ (.head _)).2.2 (N5 _ (.head _)).1

theorem gl_spec {w : World} {A : Around} {R : Result → Shared → Prop} {s : Shared} {mg mb : Str → Option Value} {p q : Nat} {t : Tok}
    (hh : A.handled = none) (hroom : A.depth < recursionLimit) (B : Base w mg mb s.heap) (hp : p < 8) (hq : q < 8)
    (hQ : ∀ h' tk tu ta tb, (∀ b o, s.heap.get? b = some o → h'.get? b = some o) → s.heap.get? tu = none → h'.get? tu = some { cls := .type "tuple", data := .seq #[.int p ta, .int q tb] } → R (.ok (.ret (.ref tu))) { s with heap := h', toks := tk }) :
    codeAny (model PR w) A (.call (.ref 28) ⟨[.str (num p ++ Str.ofString "." ++ num q) t], []⟩) R s := by
  refine gl_enter hroom B fun h₁ tk F N => ?_
  exact gl_body (by exact hh) B F N hp hq fun h' tk' tu ta tb e1 e2 e3 => hQ h' tk' tu ta tb e1 e2 e3
end Mine

namespace Mine
theorem markPlainD : True := by w_top off; trivial
open PySem PySem.Builtin.Str

theorem find_piece {mod piece : Str} (hc : Txt.contains mod piece = true) : ∃ p : Nat, Txt.find mod piece = (p : Int) ∧ p + piece.length ≤ mod.length ∧ ((Ls mod).drop p).take piece.length = Ls piece := by
  rcases PyProof.Rows.find_spec mod piece with z | ⟨p, h1, h2, h3⟩
  · unfold Txt.contains at hc
    unfold Txt.find at z
    split at z
    · omega
    · rename_i e
      rw [e] at hc; simp at hc
  · refine ⟨p, h1, h2, ?_⟩
    have e := congrArg Ls h3
    rw [← e]
    show _ = (strSub mod p (p + piece.length)).cps.toList
    rw [StrLaws.strSub_toList, Nat.add_sub_cancel_left]

theorem piece_ok {row mod : Str} {rs : List (Nat × Nat)} (hrow : row.length = 7) (H : Okay 7 (okOf row mod)) (h : Road 7 (okOf row mod) 7 rs) : ∀ t ∈ txts row rs, 1 ≤ t.length ∧ t.length ≤ 7 ∧ Txt.contains mod t = true := by
  intro t ht
  obtain ⟨p, hp, rfl⟩ := List.mem_map.mp ht
  obtain ⟨h1, h2, h3⟩ := road_ok H h p hp
  have hl : (Txt.slice row (some (p.1 : Int)) (some (p.2 : Int))).length = p.2 - p.1 := by
    show (Txt.slice row (some (p.1 : Int)) (some (p.2 : Int))).cps.size = _
    rw [← Array.length_toList]
    show (Ls _).length = _
    rw [slice_toList, List.length_take, List.length_drop]
    have : (Ls row).length = 7 := by rw [← hrow]; simp [Str.length]
    omega
  exact ⟨by omega, by omega, h3⟩

theorem whole_row {row mod : Str} {rs : List (Nat × Nat)} (hrow : row.length = 7) (h : Road row.length (okOf row mod) 7 rs) : ((txts row rs).map Ls).flatten = Ls row := by
  rw [road_text h]
  exact List.take_of_length_le (by have : (Ls row).length = 7 := by rw [← hrow]; simp [Str.length]
                                   omega)
end Mine

namespace Mine
set_option maxRecDepth 100000
set_option maxHeartbeats 1000000
theorem markBk : True := by w_top off; trivial
open PySem PySem.W PyProof.Rows PySem.Calls PySem.Spec
theorem fillBk : (fun (_ : PySem.W.OpenLaw) (_ : Params → Frag) => True) PySem.Challenge.rw_pg0001_01 Mine.hd.heap_39 := by k_fill; trivial
local macro_rules | `(tactic| walk_at "eval Name") => `(tactic| (k_dflt (refine' nameX_L ?F ?v ?_ ?a ?b; (case F => k_asm); (case a => rfl); (case b => rfl); (case v => first | with_reducible assumption | ((try dsimp only); repeat (first | with_reducible assumption | exact if_pos rfl | refine Eq.trans (if_neg (by decide)) ?_)) | with_reducible rfl); k_whole)))

theorem num_len : ∀ p : Nat, p < 8 → (Str.ofString (toString (p : Int))).length = 1 := by decide +kernel
def bkBody : List Stmt := forBody (lwBody.getD 9 default)
theorem bk_turn {w : World} {af : Addr} {cv : Value} {A : Around} {h₀ h : Heap} {s : Shared} {L I : Addr} {mg mb : Str → Option Value} {row mod c bk : Str} {t1 t2 tb tc : Tok} {tk : Nat} {oI : Obj} {ow : List (Addr × Obj)} {m : Str → Option Value} {Q : Flow → Shared → Prop}
    (hh : A.handled = none) (hroom : A.depth < recursionLimit) (hu : A.units + 64 < cLine) (B : Base w mg mb h₀) (hmod : mod.length = 8) (F : Fr h₀ L h m) (N : News h₀ L h ((I, oI) :: ow)) (m1 : m "row" = some (.str row t1)) (m2 : m "model" = some (.str mod t2)) (m3 : m "back" = some (.str bk tb))
    (hbk : bk.length ≤ 56) (hc1 : 1 ≤ c.length) (hc7 : c.length ≤ 7) (hcc : Txt.contains mod c = true)
    (hQ : ∀ h' tk' m' bk' tb', Fr h₀ L h' m' → News h₀ L h' ((I, oI) :: ow) → m' "row" = some (.str row t1) → m' "model" = some (.str mod t2) → m' "back" = some (.str bk' tb') → Ls bk' = Ls bk ++ Ls c → Q .next { s with heap := h', toks := tk' }) :
    wpAny (model PR w) A (storeName (lwEnv af cv L) "piece" (.str c tc)) (fun _ s₂ => wpAny (model PR w) A (execs bkBody (lwEnv af cv L)) Q (fun _ _ => False) s₂) (fun _ _ => False) { s with heap := h, toks := tk } := by
  have X : (hd.heap_39 w.params).In h₀ := B.K
  obtain ⟨loose, mean, T⟩ := B.T
  obtain ⟨p, hfp, hp8, hpc⟩ := find_piece hcc
  have hlc : c.length ≤ sizeLine := by rw [sizeLine_eq]; omega
  have hlm : mod.length ≤ sizeLine := by rw [sizeLine_eq]; omega
  delta bkBody lwBody
  with_unfolding_all (conv => arg 4; ext; ext; arg 3; arg 1; whnf)
  iterate 13 (walk1 <;> try dsimp only)
  refine index_or hh (fun z => absurd z (by rw [hfp]; omega)) fun _ _ => ?_
  rw [hfp]
  dsimp only
  iterate 10 (walk1 <;> try dsimp only)
  rename_i tu h1 F1 N1 l1
  refine unpackItemsN_ F1 N1 (N1.isTup (.head _)) hh (by rfl) fun h2 F2 N2 => ?_
  replace N2 : News h₀ L h2 ((I, oI) :: ow) := fun p hp => N2 p (.tail _ hp)
  clear F1 N1 l1
  dsimp only
  iterate 12 (walk1 <;> try dsimp only)
  rename_i h3 F3 N3
  refine callWith_F ⟨_, _, _, _, F3.keep _ _ (X 28 _ (by k_is))⟩ ?_
  have hn1 := num_len p (by omega)
  have hn2 := num_len c.length (by omega)
  have hnd : (Str.ofString ".").length = 1 := by rfl
  iterate 21 (walk1 <;> try dsimp only)
  refine ⟨⟨_, _, _, _, F3.keep _ _ (X 28 _ (by k_is))⟩, wpAny_call (gl_spec (p := p) (q := c.length) hh hroom (B.keeps F3.keep) (by omega) (by omega) fun h4 tk4 tu ua ub k4 n4 e4 => ?_)⟩
  dsimp only at k4 n4 e4 ⊢
  obtain ⟨F4, N4⟩ := after_new F3 N3 k4 n4 e4
  clear F3 N3 k4 n4 e4
  iterate 13 (walk1 <;> try dsimp only)
  rename_i tq h6 F6 N6 l6
  refine ne_dataH (by ke_read) (by ke_read) (by rfl) (by rfl) hu ?_
  simp only [PyData.eqv, PyData.eqvAll, beq_self_eq_true, Bool.and_true, Bool.not_true]
  refine wpAny_truthy_bool ?_
  rw [if_neg (by decide)]
  clear l6
  iterate 3 (walk1 <;> try dsimp only)
  refine wpAny_loadName_local (by rfl) (by rfl) F6.ns (v := .str bk tb) (by exact m3) ?_
  iterate 21 (walk1 <;> try dsimp only)
  have hsc : Txt.slice mod (some (p : Int)) (some ((p : Int) + (c.length : Int))) = c := str_ext (by
    rw [show ((p : Int) + (c.length : Int)) = ((p + c.length : Nat) : Int) by omega, slice_toList, Nat.add_sub_cancel_left]; exact hpc)
  rw [hsc]
  iterate 2 (walk1 <;> try dsimp only)
  rename_i h9 F9 N9
  refine wpAny_execs_nil (hQ h9 _ _ (bk ++ c) _ F9 (fun p hp => N9 p (.tail _ (.tail _ hp))) ?_ ?_ (if_pos rfl) (ls_app _ _))
  all_goals ((try dsimp only); repeat (first | with_reducible assumption | exact if_pos rfl | refine Eq.trans (if_neg (by decide)) ?_))
end Mine

namespace Mine
set_option maxRecDepth 100000
set_option maxHeartbeats 1000000
theorem markLo5 : True := by w_top off; trivial
open PySem PySem.W PyProof.Rows PySem.Calls PySem.Spec
theorem fillLo5 : (fun (_ : PySem.W.OpenLaw) (_ : Params → Frag) => True) PySem.Challenge.rw_pg0001_01 Mine.hd.heap_39 := by k_fill; trivial
local macro_rules | `(tactic| walk_at "eval Name") => `(tactic| (k_dflt (refine' nameX_L ?F ?v ?_ ?a ?b; (case F => k_asm); (case a => rfl); (case b => rfl); (case v => first | with_reducible assumption | ((try dsimp only); repeat (first | with_reducible assumption | exact if_pos rfl | refine Eq.trans (if_neg (by decide)) ?_)) | with_reducible rfl); k_whole)))

theorem own_one {h₀ h : Heap} {L q : Addr} {m : Str → Option Value} {o : Obj} (F : Fr h₀ L h m) (e : h.get? q = some o) (hne : q ≠ L) : ∃ ow, News h₀ L h ow ∧ (∀ p ∈ ow, p.1 = q) ∧ OwnTells h₀ ow (fun h2 => h2.get? q = some o) := by
  cases hz : h₀.get? q with
  | some o' =>
    have e' := F.keep _ _ hz
    rw [e] at e'
    cases e'
    exact ⟨[], News.nil, fun p hp => (nomatch hp), fun h2 k _ => k _ _ hz⟩
  | none => exact ⟨[(q, o)], List.forall_mem_cons.mpr ⟨⟨e, hne, hz⟩, List.forall_mem_nil _⟩, List.forall_mem_cons.mpr ⟨rfl, List.forall_mem_nil _⟩, fun h2 _ ho => ho _ (.head _)⟩

theorem carr_get : ∀ {xs : List Value} {ts : List Str} {i : Nat} {v : Value}, CarriedAll xs (ts.map PyData.str) → xs[i]? = some v → ∃ c t, ts[i]? = some c ∧ v = .str c t
  | [], _, _, _, _, e => by simp at e
  | x :: xs, [], _, _, h, _ => by cases h
  | x :: xs, c :: ts, 0, v, h, e => by
    cases h with
    | cons a r =>
      cases a
      simp only [List.getElem?_cons_zero, Option.some.injEq] at e
      exact ⟨_, _, rfl, e.symm⟩
  | x :: xs, c :: ts, i + 1, v, h, e => by
    cases h with
    | cons a r =>
      rw [List.getElem?_cons_succ] at e ⊢
      exact carr_get r e

theorem lw_end {w : World} {af : Addr} {cv : Value} {A : Around} {h₀ h : Heap} {s : Shared} {L I pa ea P pr fs fa : Addr} {mg mb : Str → Option Value} {qual row mod : Str} {t1 t2 : Tok} {ys : List Value} {k tk : Nat} {Q : Flow → Shared → Prop}
    (hh : A.handled = none) (hroom : A.depth < recursionLimit) (hu : A.units + 64 < cLine) (B : Base w mg mb h₀) (hrow : row.length = 7) (hmod : mod.length = 8) (H : Okay 7 (okOf row mod))
    (inv : LoInv h₀ L I pa ea P pr fs fa qual row mod t1 t2 ys k 8 h)
    (hQ : ∀ h' tk', (∀ b o, h₀.get? b = some o → h'.get? b = some o) → GrownAt 30 h' → Q (.ret (.bool true)) { s with heap := h', toks := tk' }) :
    wpAny (model PR w) A (execs lwEnd (lwEnv af cv L)) Q (fun _ _ => False) { s with heap := h, toks := tk } := by
  have X : (hd.heap_39 w.params).In h₀ := B.K
  obtain ⟨loose, mean, T⟩ := B.T
  obtain ⟨m, ps, own, eys, ke, pvs, kp, F, N, off, fm, hs, ht, hr, hle, hlp⟩ := inv
  obtain ⟨m1, m2, m3, m4, m5, m6⟩ := id fm
  delta lwEnd lwBody
  with_unfolding_all (conv => arg 3; arg 1; whnf)
  iterate 5 (walk1 <;> try dsimp only)
  rename_i h1 F1 N1
  have hown : ∀ p ∈ own, h1.get? p.1 = some p.2 := fun p hp => (N1 p (.tail _ (.tail _ (.tail _ hp)))).1
  obtain ⟨a, rs, q, te, last, _, hpq, xs, kx, hq, hx⟩ := (hr.here F1 hown) 7 (by omega)
  have ha7 : a = 7 := by
    rcases last.2.2 with z | z
    · exact z
    · obtain ⟨b, fb⟩ := isFar_ex H (i := a) (by have := last.2.1; omega)
      have := z b fb; have := fb.2.1; omega
  subst ha7
  refine wpAny_execs_cons (wpAny_For ?_ (by intro _; rfl))
  iterate 5 (walk1 <;> try dsimp only)
  have hxl : xs.length = rs.length := by rw [hx.len]; simp [txts]
  have hrl : rs.length ≤ 7 := last.1.len_le H
  have hts := piece_ok hrow H last.1
  have hwr := whole_row hrow (by rw [hrow]; exact last.1)
  have hbl : ∀ i, (((txts row rs).take i).map Ls).flatten.length ≤ 7 := fun i => by
    have e : ((txts row rs).map Ls).flatten = (((txts row rs).take i).map Ls).flatten ++ (((txts row rs).drop i).map Ls).flatten := by
      rw [← List.flatten_append, ← List.map_append, List.take_append_drop]
    have e2 := congrArg List.length (e.symm.trans hwr)
    have : (Ls row).length = 7 := by rw [← hrow]; simp [Str.length]
    rw [List.length_append, this] at e2
    omega
  have qL : q ≠ L := fun z => by
    obtain ⟨o, es, ep, g, d, _⟩ := F1.ns
    rw [z, g] at hq; cases hq; cases d
  obtain ⟨ow1, No1, hoq1, hoT1⟩ := own_one F1 hq qL
  obtain ⟨ps30, e30⟩ := (hs.here F1 hown).2.2.2
  obtain ⟨ow2, No2, hoq2, hoT2⟩ := own_one F1 e30 (fun z => by
    obtain ⟨o, es, ep, g, d, _⟩ := F1.ns
    rw [z, g] at e30; cases e30; cases d)
  generalize how : ow1 ++ ow2 = ow
  have No : News h₀ L h1 ow := by
    rw [← how]; intro p hp
    rcases List.mem_append.mp hp with hp | hp
    · exact No1 p hp
    · exact No2 p hp
  have hoT : OwnTells h₀ ow (fun h2 => h2.get? q = some (W.listOf xs.toArray kx)) := hoT1.mono (fun p hp => by rw [← how]; exact List.mem_append_left _ hp) fun _ x => x
  have hoG : OwnTells h₀ ow (fun h2 => GrownAt 30 h2) := hoT2.mono (fun p hp => by rw [← how]; exact List.mem_append_right _ hp) fun _ x => ⟨ps30, x⟩
  have hoq : ∀ p ∈ ow, p.1 < h1.objs.size := news_lt No
  clear No1 No2 hoT1 hoT2 hoq1 hoq2 how e30
  have hlpa : h1.IsList pa pvs.toArray := N1.isList (.head _)
  refine tail_any hlpa.typeIs slot_list_getitem.lookup (wpAny_getItem_list_neg (x := .ref q) hlpa (by decide) (by rw [List.size_toArray, hlp]; decide) (by decide) (by rw [List.size_toArray, hlp]; simpa using hpq) ?_) (by with_unfolding_all rfl)
  refine wpAny_pyIter_list (l := q) ⟨_, hq, rfl, _, rfl⟩ ?_
  have hLI : @LT.lt Nat _ L h1.objs.size := F1.ns.lt
  have hIn : h₀.get? h1.objs.size = none := Heap.get?_none_of_le (Nat.le_trans F1.above (Nat.le_of_lt hLI))
  have hqI : q ≠ h1.objs.size := Nat.ne_of_lt (Heap.lt_size hq)
  have F2 := F1.push { cls := .type "list_iterator", data := .fields #[.ref q, .int 0 0] }
  have N2 : News h₀ L (h1.push { cls := .type "list_iterator", data := .fields #[.ref q, .int 0 0] }) ow := fun p hp => ⟨Heap.get?_push_of_some _ (No p hp).1, (No p hp).2⟩
  have hst : (h1.push { cls := .type "list_iterator", data := .fields #[.ref q, .int 0 0] }).IsListIter h1.objs.size q 0 ∧ (h1.push { cls := .type "list_iterator", data := .fields #[.ref q, .int 0 0] }).IsList q xs.toArray :=
    ⟨⟨_, Heap.get?_push_size _ rfl, rfl, rfl⟩, ⟨_, Heap.get?_push_of_some _ hq, rfl, _, rfl⟩⟩
  dsimp only
  show codeAny _ _ _ _ { s with heap := h1.push { cls := .type "list_iterator", data := .fields #[.ref q, .int 0 0] }, toks := _ }
  generalize h1.push { cls := .type "list_iterator", data := .fields #[.ref q, .int 0 0] } = h2 at F2 N2 hst ⊢
  generalize h1.objs.size = J at *
  clear F1 N1 No hq hs ht hr hown hlpa
  refine forLoop_H (s := ⟨h2, _, _, _, _⟩) (Walks.list hh J q hqI xs.toArray) (fun i h => ∃ m bk tb, Fr h₀ L h m ∧ News h₀ L h ow ∧ m "row" = some (.str row t1) ∧ m "model" = some (.str mod t2) ∧ m "back" = some (.str bk tb) ∧ Ls bk = (((txts row rs).take i).map Ls).flatten) hst
    ⟨_, Str.ofString "", _, F2, N2, m1, m2, if_pos rfl, rfl⟩ ?_ ?_ ?_ PassesOwn.never
  · rintro i h h' ⟨m, bk, tb, Fi, Ni, r⟩ hk
    exact ⟨m, bk, tb, LCg.fr_but Fi hk (Nat.ne_of_lt hLI) hIn, LCg.news_but Ni hk (fun p hp => Nat.ne_of_lt (hoq p hp)), r⟩
  · rintro i v h5 tk5 hi hv ⟨m', bk, tb, F5, N5, r1, r2, r3, r4⟩ ⟨⟨oI, ho, hc, hd⟩, _⟩
    rw [List.getElem?_toArray] at hv
    obtain ⟨c, tc, hc', rfl⟩ := carr_get hx hv
    obtain ⟨c1, c7, cc⟩ := hts c (List.mem_of_getElem? hc')
    have hbk : bk.length ≤ 56 := by
      have e : bk.length = (Ls bk).length := by simp [Str.length]
      have := hbl i
      rw [e, r4]; omega
    refine bk_turn hh hroom hu B hmod F5 (List.forall_mem_cons.mpr ⟨⟨ho, Nat.ne_of_gt hLI, hIn⟩, N5⟩) r1 r2 r3 hbk c1 c7 cc fun h' tk' m'' bk' tb' F' N' q1 q2 q3 q4 => ?_
    refine ⟨h', tk', rfl, ⟨⟨oI, N'.get (.head _), hc, hd⟩, ⟨_, hoT h' F'.keep (fun p hp => (N' p (.tail _ hp)).1), rfl, _, rfl⟩⟩, m'', bk', tb', F', fun p hp => N' p (.tail _ hp), q1, q2, q3, ?_⟩
    rw [q4, r4, List.take_add_one, hc', List.map_append, List.flatten_append]
    simp
  · rintro h5 tk5 ⟨m', bk, tb, F5, N5, r1, r2, r3, r4⟩
    have hbr : bk = row := str_ext (by rw [r4, List.take_of_length_le (by rw [List.size_toArray, hxl]; simp [txts]), hwr])
    subst hbr
    dsimp only
    iterate 6 (walk1 <;> try dsimp only)
    rw [beq_self_eq_true]
    exact hQ h5 _ F5.keep (hoG.here F5 fun p hp => (N5 p hp).1)
end Mine

namespace Mine
set_option maxRecDepth 100000
set_option maxHeartbeats 8000000
theorem markJn : True := by w_top off; trivial
open PySem PySem.W PyProof.Rows PySem.Calls PySem.Spec

theorem law_all {w : World} {af : Addr} {cv : Value} {A : Around} {h₀ h : Heap} {s : Shared} {L a : Addr} {mg mb : Str → Option Value} {vs : List Value} {xs : List Int} {tk : Nat} {m : Str → Option Value} {Q : Flow → Shared → Prop}
    (hh : A.handled = none) (hroom : A.depth + 1 < recursionLimit) (hu : A.units + 64 < cLine) (B : Base w mg mb h₀) (C : CodeHd h₀ 34 30) (F : Fr h₀ L h m) (N : News h₀ L h [(30, tabObj #[])]) (hm : m "script" = some (.ref a)) (hl : h₀.IsList a vs.toArray) (hi : IntsAre vs xs) (l30 : @LT.lt Nat _ 30 L) (hlen : ¬ ((63 : Nat) : Int) < (xs.length : Int))
    (hQ : ∀ h' tk', (∀ b o, h₀.get? b = some o → h'.get? b = some o) → GrownAt 30 h' → Q (.ret (.bool true)) { s with heap := h', toks := tk' }) :
    wpAny (model PR w) A (execs lwBody (lwEnv af cv L)) Q (fun _ _ => False) { s with heap := h, toks := tk } := by
  refine lw_head hh B F N hm hl hi l30 hlen fun h1 tk1 m1 row mod t1 t2 F1 N1 r1 r2 hrow hmod hsub hdot => ?_
  have H : Okay 7 (okOf row mod) := by have := okay_of (row := row) (mod := mod) hsub; rw [hrow] at this; exact this
  refine lw_mid hh (by omega) B C F1 N1 r1 r2 hrow H fun h2 tk2 m2 fa pr fs P qual ea pa ys k fw own F2 N2 q1 q2 q3 q4 q5 q6 off n1 n2 n3 hs hys hfl few => ?_
  refine lw_loop hh hroom B hrow H hdot hys hfl few n1 n2 n3 F2 N2 ⟨q1, q2, q3, q4, q5, q6⟩ off hs fun h3 tk3 I inv => ?_
  exact lw_end hh (by omega) hu B hrow hmod H inv hQ

theorem jn : PySem.Challenge.rw_pg0001_01.Holds := Mine.hd (by
  k_go0
  rename Fr _ _ _ _ => F'
  rename News _ _ _ _ => N'
  rename IntsAre _ _ => hI
  rename Top topProg _ _ _ _ _ => T'
  refine wpAny_mono (law_all (hh := rfl) (hroom := ?r) (hu := ?u) (B := ⟨by assumption, _, _, T'⟩) (C := codeHd) (F := F') (N := N') (hm := by rfl) (hl := lifted) (hi := hI) (l30 := by assumption) (hlen := by assumption) (hQ := ?q)) (fun _ _ x => x) (fun _ _ x => x.elim)
  case r => rw [depth_deeper]; decide
  case u => units_room
  case q =>
    intro h' tk' keep grown
    refine ⟨⟨.inl ⟨_, .bool true, [], rfl, ?_, .bool true, ?_, fun _ => ⟨.nil, fun _ ha => nomatch ha⟩⟩, keep, rfl, ?_⟩, grown, trivial⟩
    · intro cls; rfl
    · exact postW_of rfl (w_eq_bool (w_res rfl) w_lit) rfl
    · assumption)
end Mine

set_option maxRecDepth 100000 in
set_option maxHeartbeats 8000000 in
theorem PySem.Challenge.cw_pg0001_01_holds : PySem.Challenge.rw_pg0001_01.Holds := by
  exact Mine.jn
