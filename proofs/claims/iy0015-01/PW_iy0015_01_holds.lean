import PyProof.Rows.All
import Wide.All
import OpenK.AllK
import Wide.FinOn
import PySem.Challenge.RW_iy0015_01
set_option Elab.async false

section SHKTop
local macro_rules | `(tactic| walk_at "no such key") => `(tactic| skip)
open PySem PySem.W PyProof.Rows
namespace HKP
set_option maxRecDepth 100000 in
set_option maxHeartbeats 8000000 in
open_top hd for PySem.Challenge.rw_iy0015_01
end HKP
end SHKTop

section SHKPure
local macro_rules | `(tactic| walk_at "no such key") => `(tactic| skip)
local macro_rules | `(tactic| walk_at "no such key") => `(tactic| skip)
namespace HKP
section assoc
variable {K V : Type} [DecidableEq K]
def aget (l : List (K × V)) (k : K) : Option V := (l.find? fun p => decide (p.1 = k)).map (·.2)
def aput (l : List (K × V)) (k : K) (v : V) : List (K × V) :=
  if l.any (fun p => decide (p.1 = k)) then l.map (fun p => if p.1 = k then (p.1, v) else p) else l ++ [(k, v)]

theorem aget_nil (k : K) : aget ([] : List (K × V)) k = none := rfl
theorem aget_cons (p : K × V) (l : List (K × V)) (k : K) : aget (p :: l) k = if p.1 = k then some p.2 else aget l k := by
  unfold aget; rw [List.find?_cons]
  by_cases h : p.1 = k <;> simp [h]
theorem aget_append (l l' : List (K × V)) (k : K) : aget (l ++ l') k = (aget l k).or (aget l' k) := by
  induction l with
  | nil => simp [aget_nil]
  | cons p l ih => simp only [List.cons_append, aget_cons, ih]; split <;> simp
theorem any_iff (l : List (K × V)) (k : K) : l.any (fun p => decide (p.1 = k)) = (aget l k).isSome := by
  induction l with
  | nil => rfl
  | cons p l ih => rw [List.any_cons, aget_cons, ih]; by_cases h : p.1 = k <;> simp [h]
theorem aget_isSome_iff (l : List (K × V)) (k : K) : (aget l k).isSome = true ↔ k ∈ l.map (·.1) := by
  induction l with
  | nil => simp [aget_nil]
  | cons p l ih =>
    rw [aget_cons, List.map_cons, List.mem_cons]
    by_cases h : p.1 = k
    · simp [h]
    · simp only [h, if_false, ih]
      exact ⟨Or.inr, fun x => x.elim (fun e => absurd e.symm h) id⟩
theorem aget_map (l : List (K × V)) (k k' : K) (v : V) : aget (l.map fun p => if p.1 = k then (p.1, v) else p) k' = (aget l k').map fun x => if k' = k then v else x := by
  induction l with
  | nil => rfl
  | cons p l ih =>
    rw [List.map_cons, aget_cons, aget_cons, ih]
    by_cases h : p.1 = k <;> by_cases h' : p.1 = k' <;> simp [h, h'] <;> grind
theorem aget_aput (l : List (K × V)) (k k' : K) (v : V) : aget (aput l k v) k' = if k' = k then some v else aget l k' := by
  unfold aput
  rw [any_iff]
  by_cases h : (aget l k).isSome = true
  · rw [if_pos h, aget_map]
    by_cases e : k' = k
    · subst e
      obtain ⟨x, hx⟩ := Option.isSome_iff_exists.mp h
      simp [hx]
    · simp [e]
  · rw [if_neg h, aget_append]
    have hn : aget l k = none := by simpa using h
    by_cases e : k' = k
    · subst e; simp [hn, aget_cons]
    · have e' : ¬ k = k' := fun q => e q.symm
      simp [e, aget_cons, e', aget_nil]
theorem aput_keys (l : List (K × V)) (k : K) (v : V) : (aput l k v).map (·.1) = if (aget l k).isSome then l.map (·.1) else l.map (·.1) ++ [k] := by
  unfold aput
  rw [any_iff]
  by_cases h : (aget l k).isSome = true
  · rw [if_pos h, if_pos h, List.map_map]
    refine List.map_congr_left fun p _ => ?_
    show (if p.1 = k then (p.1, v) else p).1 = p.1
    split <;> rfl
  · rw [if_neg h, if_neg h, List.map_append]; rfl
theorem aput_length (l : List (K × V)) (k : K) (v : V) : (aput l k v).length = l.length + if (aget l k).isSome then 0 else 1 := by
  have := congrArg List.length (aput_keys l k v)
  simp only [List.length_map] at this
  rw [this]
  split <;> simp
theorem aput_nodup (l : List (K × V)) (k : K) (v : V) (h : (l.map (·.1)).Nodup) : ((aput l k v).map (·.1)).Nodup := by
  rw [aput_keys]
  split
  · exact h
  · rename_i hn
    rw [List.nodup_append]
    refine ⟨h, by simp, ?_⟩
    intro a ha b hb
    simp only [List.mem_singleton] at hb
    subst hb
    rintro rfl
    exact hn ((aget_isSome_iff _ _).mpr ha)
theorem aget_mem {l : List (K × V)} {k : K} {v : V} (h : aget l k = some v) : (k, v) ∈ l := by
  induction l with
  | nil => cases h
  | cons p l ih =>
    rw [aget_cons] at h
    by_cases e : p.1 = k
    · rw [if_pos e] at h; cases h; subst e; exact List.mem_cons_self
    · rw [if_neg e] at h; exact List.mem_cons_of_mem _ (ih h)
theorem aget_of_mem {l : List (K × V)} {k : K} {v : V} (hn : (l.map (·.1)).Nodup) (h : (k, v) ∈ l) : aget l k = some v := by
  induction l with
  | nil => cases h
  | cons p l ih =>
    rw [aget_cons]
    rw [List.map_cons, List.nodup_cons] at hn
    rcases List.mem_cons.mp h with rfl | h
    · simp
    · have : p.1 ≠ k := fun e => hn.1 (e ▸ List.mem_map.mpr ⟨_, h, rfl⟩)
      rw [if_neg this]; exact ih hn.2 h
end assoc

theorem nodup_le {α : Type} [DecidableEq α] : ∀ {l m : List α}, l.Nodup → (∀ x ∈ l, x ∈ m) → l.length ≤ m.length
  | [], _, _, _ => Nat.zero_le _
  | a :: l, m, hn, hs => by
    rw [List.nodup_cons] at hn
    have ha := hs a List.mem_cons_self
    have := nodup_le (l := l) (m := m.erase a) hn.2 fun x hx => (List.mem_erase_of_ne (fun e => hn.1 (by rw [← e]; exact hx))).mpr (hs x (List.mem_cons_of_mem _ hx))
    rw [List.length_erase_of_mem ha] at this
    have : 0 < m.length := List.length_pos_of_mem ha
    rw [List.length_cons]; omega

/-- the finder's state -/
structure HS (R : Type) where
  pl : List (Int × R)
  pr : List (R × Int)
  dl : List (Int × Int)
  rd : Int

section model
variable {R : Type} [DecidableEq R]
def swap (S : HS R) (l : Int) (r : R) : HS R := { S with pl := aput S.pl l r, pr := aput S.pr r l }

def dfsRow (rec : HS R → Int → Option (Bool × HS R)) (l : Int) : List R → HS R → Option (Bool × HS R)
  | [], S => some (false, { S with dl := aput S.dl l (-1) })
  | r :: rs, S =>
    match aget S.pr r with
    | none =>
      match aget S.dl l with
      | none => none
      | some d => if S.rd = d + 1 then some (true, swap S l r) else dfsRow rec l rs S
    | some o =>
      match aget S.dl o with
      | none => none
      | some e =>
        match aget S.dl l with
        | none => none
        | some d =>
          if e = d + 1 then
            match rec S o with
            | none => none
            | some (true, S') => some (true, swap S' l r)
            | some (false, S') => dfsRow rec l rs S'
          else dfsRow rec l rs S

def dfs (g : List (Int × List R)) : Nat → HS R → Int → Option (Bool × HS R)
  | 0, _, _ => none
  | n + 1, S, l =>
    match aget g l with
    | none => none
    | some row => dfsRow (dfs g n) l row S

def bfsInit : List Int → List Int → HS R → List Int × HS R
  | [], q, S => (q, S)
  | l :: ls, q, S =>
    if (aget S.pl l).isSome then bfsInit ls q { S with dl := aput S.dl l (-1) }
    else bfsInit ls (q ++ [l]) { S with dl := aput S.dl l 0 }

def bfsRow (l : Int) : List R → List Int → HS R → Option (List Int × HS R)
  | [], q, S => some (q, S)
  | r :: rs, q, S =>
    match aget S.pr r with
    | none =>
      if S.rd = -1 then
        match aget S.dl l with
        | none => none
        | some d => bfsRow l rs q { S with rd := d + 1 }
      else bfsRow l rs q S
    | some o =>
      match aget S.dl o with
      | none => none
      | some e =>
        if e = -1 then
          match aget S.dl l with
          | none => none
          | some d => bfsRow l rs (q ++ [o]) { S with dl := aput S.dl o (d + 1) }
        else bfsRow l rs q S

def bfsLoop (g : List (Int × List R)) : Nat → List Int → HS R → Option (HS R)
  | 0, _, _ => none
  | _ + 1, [], S => some S
  | n + 1, l :: q, S =>
    match aget S.dl l with
    | none => none
    | some d =>
      if d < 0 then none
      else if S.rd = -1 ∨ d < S.rd then
        match aget g l with
        | none => none
        | some row =>
          match bfsRow l row q S with
          | none => none
          | some (q', S') => bfsLoop g n q' S'
      else bfsLoop g n q S

def bfs (g : List (Int × List R)) (n : Nat) (S : HS R) : Option (HS R) :=
  bfsLoop g n (bfsInit (g.map (·.1)) [] S).1 { (bfsInit (g.map (·.1)) [] S).2 with rd := -1 }

def phase (g : List (Int × List R)) (n : Nat) : List Int → HS R → Nat → Option (HS R × Nat)
  | [], S, k => some (S, k)
  | l :: ls, S, k =>
    if (aget S.pl l).isSome then phase g n ls S k
    else
      match dfs g n S l with
      | none => none
      | some (b, S') => phase g n ls S' (if b then k + 1 else k)

def hkLoop (g : List (Int × List R)) (n : Nat) : Nat → HS R → Nat → Option (HS R × Nat)
  | 0, _, _ => none
  | f + 1, S, k =>
    match bfs g n S with
    | none => none
    | some S' =>
      if S'.rd = -1 then some (S', k)
      else
        match phase g n (g.map (·.1)) S' k with
        | none => none
        | some (S'', k') => hkLoop g n f S'' k'

theorem bfsInit_len : ∀ (ls q : List Int) (S : HS R), q.length ≤ (bfsInit ls q S).1.length
  | [], q, S => Nat.le_refl _
  | l :: ls, q, S => by
    unfold bfsInit
    split
    · exact bfsInit_len ls _ _
    · exact Nat.le_trans (by simp) (bfsInit_len ls _ _)
theorem bfsRow_len (l : Int) : ∀ (rs : List R) (q : List Int) (S : HS R) (q' : List Int) (S' : HS R), bfsRow l rs q S = some (q', S') → q.length ≤ q'.length := by
  intro rs
  induction rs with
  | nil => intro q S q' S' h; cases h; exact Nat.le_refl _
  | cons r rs ih =>
    intro q S q' S' h
    unfold bfsRow at h
    split at h
    · split at h
      · split at h
        · cases h
        · exact ih _ _ _ _ h
      · exact ih _ _ _ _ h
    · split at h
      · cases h
      · split at h
        · split at h
          · cases h
          · exact Nat.le_trans (by simp) (ih _ _ _ _ h)
        · exact ih _ _ _ _ h
theorem bfsLoop_len (g : List (Int × List R)) : ∀ (n : Nat) (q : List Int) (S S' : HS R), bfsLoop g n q S = some S' → q.length < n := by
  intro n
  induction n with
  | zero => intro q S S' h; cases h
  | succ n ih =>
    intro q S S' h
    cases q with
    | nil => exact Nat.zero_lt_succ _
    | cons l q =>
      unfold bfsLoop at h
      rw [List.length_cons]
      split at h
      · cases h
      · split at h
        · cases h
        · split at h
          · split at h
            · cases h
            · split at h
              · cases h
              · rename_i q' S' hb
                have := ih _ _ _ h
                have := bfsRow_len _ _ _ _ _ _ hb
                omega
          · have := ih _ _ _ h
            omega

def dl0 (ls : List Int) : List (Int × Int) := ls.foldl (fun d l => aput d l (-1)) []
def hkRun (g : List (Int × List R)) (rd : Int) : Option (HS R × Nat) :=
  hkLoop g (g.length + 2) (g.length + 2) ⟨[], [], dl0 (g.map (·.1)), rd⟩ 0
end model
end HKP
end SHKPure

section SHKDfs
local macro_rules | `(tactic| walk_at "no such key") => `(tactic| skip)
local macro_rules | `(tactic| walk_at "no such key") => `(tactic| skip)
local macro_rules | `(tactic| walk_at "no such key") => `(tactic| skip)
namespace HKP
section law
variable {R : Type} [DecidableEq R] {g : List (Int × List R)}

def dd (S : HS R) (x : Int) : Int := (aget S.dl x).getD (-1)

structure Good (g : List (Int × List R)) (S : HS R) : Prop where
  a : ∀ r l, aget S.pr r = some l → aget S.pl l = some r
  b : ∀ l r, aget S.pl l = some r → aget S.pr r = some l
  e : ∀ l r, aget S.pl l = some r → ∃ row, aget g l = some row ∧ r ∈ row
  n : (S.pl.map (·.1)).Nodup
  d : ∀ l row, aget g l = some row → ∃ x, aget S.dl l = some x

def Done (S : HS R) (d0 : Int → Int) (l : Int) (r : R) : Prop :=
  (aget S.pr r = none → S.rd ≠ d0 l + 1) ∧ ∀ o, aget S.pr r = some o → d0 o = d0 l + 1 → dd S o = -1
def Dead (g : List (Int × List R)) (d0 : Int → Int) (S : HS R) : Prop :=
  ∀ x row, aget g x = some row → dd S x = -1 → 0 ≤ d0 x → ∀ r ∈ row, Done S d0 x r
def Alive (d0 : Int → Int) (S : HS R) : Prop := ∀ x, dd S x = d0 x ∨ dd S x = -1

def above (g : List (Int × List R)) (S : HS R) (l : Int) : Nat := ((g.map (·.1)).filter fun x => decide (dd S l < dd S x)).length

theorem filter_le {α : Type} {p q : α → Bool} : ∀ {l : List α}, (∀ x ∈ l, p x = true → q x = true) → (l.filter p).length ≤ (l.filter q).length
  | [], _ => Nat.le_refl _
  | x :: l, h => by
    have ih := filter_le (l := l) (p := p) (q := q) fun y hy => h y (List.mem_cons_of_mem _ hy)
    rw [List.filter_cons, List.filter_cons]
    by_cases hp : p x = true
    · rw [if_pos hp, if_pos (h x List.mem_cons_self hp)]; simp only [List.length_cons]; omega
    · rw [if_neg hp]
      split
      · simp only [List.length_cons]; omega
      · exact ih
theorem filter_lt {α : Type} {p q : α → Bool} {a : α} : ∀ {l : List α}, (∀ x ∈ l, p x = true → q x = true) → a ∈ l → q a = true → p a = false → (l.filter p).length < (l.filter q).length
  | x :: l, h, ha, hq, hp => by
    have ih := filter_le (l := l) (p := p) (q := q) fun y hy => h y (List.mem_cons_of_mem _ hy)
    rw [List.filter_cons, List.filter_cons]
    rcases List.mem_cons.mp ha with rfl | ha
    · rw [if_neg (by simp [hp]), if_pos hq]; simp only [List.length_cons]; omega
    · have ih := filter_lt (l := l) (p := p) (q := q) (fun y hy => h y (List.mem_cons_of_mem _ hy)) ha hq hp
      by_cases hp : p x = true
      · rw [if_pos hp, if_pos (h x List.mem_cons_self hp)]; simp only [List.length_cons]; omega
      · rw [if_neg hp]
        split
        · simp only [List.length_cons]; omega
        · exact ih

structure Won (g : List (Int × List R)) (S : HS R) (l : Int) (S' : HS R) : Prop where
  rd : S'.rd = S.rd
  s1 : ∀ r' l', aget S'.pr r' = some l' → aget S'.pl l' = some r' ∨ (l' = l ∧ aget S.pl l = some r')
  s2 : ∀ l' r', aget S'.pl l' = some r' → aget S'.pr r' = some l'
  s3 : ∀ r', aget S.pl l = some r' → aget S'.pr r' = some l ∧ aget S'.pl l ≠ some r'
  s4 : ∀ l' r', aget S'.pl l' = some r' → ∃ row, aget g l' = some row ∧ r' ∈ row
  s5 : ∀ x, dd S x < dd S l → aget S'.pl x = aget S.pl x
  n : (S'.pl.map (·.1)).Nodup
  d : ∀ l row, aget g l = some row → ∃ x, aget S'.dl l = some x
  len : S'.pl.length = S.pl.length + if (aget S.pl l).isSome then 0 else 1

structure Lost (g : List (Int × List R)) (S : HS R) (l : Int) (S' : HS R) : Prop where
  pl : S'.pl = S.pl
  pr : S'.pr = S.pr
  rd : S'.rd = S.rd
  d : ∀ l row, aget g l = some row → ∃ x, aget S'.dl l = some x
  z : dd S' l = -1
  m : ∀ x, dd S' x = dd S x ∨ (dd S' x = -1 ∧ dd S l ≤ dd S x ∧ (x = l ∨ (aget S.pl x).isSome = true))

omit [DecidableEq R] in
theorem dd_of {S : HS R} {x d : Int} (h : aget S.dl x = some d) : dd S x = d := by unfold dd; rw [h]; rfl

theorem won_free {S : HS R} {l : Int} {r : R} {row : List R} (G : Good g S) (hg : aget g l = some row) (hr : r ∈ row) (hp : aget S.pr r = none) : Won g S l (swap S l r) where
  rd := rfl
  s1 := fun r' l' h => by
    simp only [swap, aget_aput] at h ⊢
    have := G.a r' l'
    grind
  s2 := fun l' r' h => by
    simp only [swap, aget_aput] at h ⊢
    have := G.b l' r'
    grind
  s3 := fun r' h => by
    simp only [swap, aget_aput]
    have := G.b l r' h
    grind
  s4 := fun l' r' h => by
    simp only [swap, aget_aput] at h
    have := G.e l' r'
    grind
  s5 := fun x h => by
    have : x ≠ l := by rintro rfl; omega
    simp only [swap, aget_aput, if_neg this]
  n := aput_nodup _ _ _ G.n
  d := G.d
  len := aput_length _ _ _

theorem won_swap {S S' : HS R} {l o : Int} {r : R} {row : List R} (G : Good g S) (hg : aget g l = some row) (hr : r ∈ row) (hp : aget S.pr r = some o) (ho : dd S l < dd S o) (W : Won g S o S') : Won g S l (swap S' l r) := by
  have hpo := G.a _ _ hp
  have hlo : l ≠ o := by rintro rfl; omega
  have hl := W.s5 l ho
  have h3 := W.s3 r hpo
  refine ⟨W.rd, ?_, ?_, ?_, ?_, ?_, aput_nodup _ _ _ W.n, W.d, ?_⟩
  · intro r' l' h
    simp only [swap, aget_aput] at h ⊢
    have := W.s1 r' l'
    grind
  · intro l' r' h
    simp only [swap, aget_aput] at h ⊢
    have := W.s2 l' r'
    grind
  · intro r' h
    simp only [swap, aget_aput]
    have h1 := G.b l r' h
    have h2 := W.s2 l r' (by rw [hl, h])
    grind
  · intro l' r' h
    simp only [swap, aget_aput] at h
    have := W.s4 l' r'
    grind
  · intro x h
    have : x ≠ l := by rintro rfl; omega
    simp only [swap, aget_aput, if_neg this]
    exact W.s5 x (by omega)
  · show (aput S'.pl l r).length = _
    rw [aput_length, W.len, hl, hpo]
    simp

theorem dfsRow_spec {rec : HS R → Int → Option (Bool × HS R)} {n : Nat}
    (hrec : ∀ S o, Good g S → (∃ row, aget g o = some row) → above g S o < n → ∃ b S', rec S o = some (b, S') ∧ (b = true → Won g S o S') ∧
      (b = false → Lost g S o S' ∧ ∀ d0, Alive d0 S → Dead g d0 S → dd S o = d0 o → 0 ≤ d0 o → Dead g d0 S')) {l : Int} {row : List R} (hg : aget g l = some row) :
    ∀ (rs : List R) (S : HS R), Good g S → (∀ r ∈ rs, r ∈ row) → above g S l < n + 1 →
      ∃ b S', dfsRow rec l rs S = some (b, S') ∧ (b = true → Won g S l S') ∧
        (b = false → Lost g S l S' ∧ ∀ d0, Alive d0 S → Dead g d0 S → dd S l = d0 l → 0 ≤ d0 l → (∀ r ∈ row, r ∉ rs → Done S d0 l r) → Dead g d0 S') := by
  intro rs
  induction rs with
  | nil =>
    intro S G _ _
    have hd : ∀ x, dd { S with dl := aput S.dl l (-1) } x = if x = l then -1 else dd S x := by
      intro x; unfold dd; dsimp only; rw [aget_aput]; split <;> rfl
    refine ⟨false, _, rfl, by simp, fun _ => ⟨⟨rfl, rfl, rfl, ?_, ?_, ?_⟩, ?_⟩⟩
    · intro x row' hx
      obtain ⟨y, hy⟩ := G.d x row' hx
      dsimp only
      rw [aget_aput]
      split
      · exact ⟨_, rfl⟩
      · exact ⟨_, hy⟩
    · rw [hd]; simp
    · intro x
      rw [hd]
      by_cases e : x = l
      · subst e; simp
      · simp [e]
    · intro d0 A D hl hl00 hdone x row' hx hdx h0 r hr
      rw [hd] at hdx
      have base : Done S d0 x r := by
        by_cases e : x = l
        · subst e
          have : row' = row := by rw [hg] at hx; exact (Option.some.inj hx).symm
          subst this
          exact hdone r hr (by simp)
        · rw [if_neg e] at hdx
          exact D x row' hx hdx h0 r hr
      refine ⟨base.1, fun o ho h => ?_⟩
      rw [hd]
      split
      · rfl
      · exact base.2 o ho h
  | cons r rs ih =>
    intro S G hsub hab
    have hrrow := hsub r List.mem_cons_self
    have hsub' : ∀ r ∈ rs, r ∈ row := fun x hx => hsub x (List.mem_cons_of_mem _ hx)
    obtain ⟨d, hd⟩ := G.d l row hg
    have hdd := dd_of hd
    unfold dfsRow
    cases hp : aget S.pr r with
    | none =>
      simp only [hd]
      by_cases hrd : S.rd = d + 1
      · rw [if_pos hrd]
        exact ⟨true, _, rfl, fun _ => won_free G hg hrrow hp, by simp⟩
      · rw [if_neg hrd]
        obtain ⟨b, S', e, hw, hl⟩ := ih S G hsub' hab
        refine ⟨b, S', e, hw, fun hb => ⟨(hl hb).1, fun d0 A D hl0 hl00 hdone => (hl hb).2 d0 A D hl0 hl00 fun x hx hn => ?_⟩⟩
        by_cases e : x = r
        · subst e
          exact ⟨fun _ => by rw [← hl0, hdd]; exact hrd, fun o ho => by rw [hp] at ho; cases ho⟩
        · exact hdone x hx (by simp [e, hn])
    | some o =>
      have hpo := G.a _ _ hp
      obtain ⟨rowo, hgo, _⟩ := G.e _ _ hpo
      obtain ⟨e, he⟩ := G.d o rowo hgo
      have hee := dd_of he
      simp only [hd, he]
      by_cases hlev : e = d + 1
      · rw [if_pos hlev]
        have hlt : dd S l < dd S o := by omega
        have hmem : o ∈ g.map (·.1) := (aget_isSome_iff _ _).mp (by rw [hgo]; rfl)
        have habo : above g S o < n := by
          have : above g S o < above g S l := by
            unfold above
            refine filter_lt (a := o) (fun x _ h => ?_) hmem (by simpa using hlt) (by simp)
            simp only [decide_eq_true_eq] at h ⊢; omega
          omega
        obtain ⟨b, S1, e1, hw1, hl1⟩ := hrec S o G ⟨_, hgo⟩ habo
        rw [e1]
        cases b with
        | true => exact ⟨true, _, rfl, fun _ => won_swap G hg hrrow hp hlt (hw1 rfl), by simp⟩
        | false =>
          obtain ⟨L1, D1⟩ := hl1 rfl
          have G1 : Good g S1 := ⟨by rw [L1.pl, L1.pr]; exact G.a, by rw [L1.pl, L1.pr]; exact G.b, by rw [L1.pl]; exact G.e, by rw [L1.pl]; exact G.n, L1.d⟩
          have hdl : dd S1 l = dd S l := by
            rcases L1.m l with h | h
            · exact h
            · omega
          have hab1 : above g S1 l < n + 1 := by
            refine Nat.lt_of_le_of_lt ?_ hab
            unfold above
            refine filter_le fun x _ h => ?_
            simp only [decide_eq_true_eq] at h ⊢
            rw [hdl] at h
            rcases L1.m x with h' | h' <;> omega
          obtain ⟨b, S', e', hw, hl⟩ := ih S1 G1 hsub' hab1
          refine ⟨b, S', e', fun hb => ?_, fun hb => ?_⟩
          · have W := hw hb
            refine ⟨by rw [W.rd, L1.rd], by rw [← L1.pl]; exact W.s1, W.s2, by rw [← L1.pl]; exact W.s3, W.s4, ?_, W.n, W.d, by rw [← L1.pl]; exact W.len⟩
            intro x hx
            rw [← L1.pl]
            refine W.s5 x ?_
            rw [hdl]
            rcases L1.m x with h' | h' <;> omega
          · obtain ⟨L, D⟩ := hl hb
            refine ⟨⟨by rw [L.pl, L1.pl], by rw [L.pr, L1.pr], by rw [L.rd, L1.rd], L.d, L.z, ?_⟩, ?_⟩
            · intro x
              have h2 := L.m x
              rw [L1.pl, hdl] at h2
              have hor : (aget S.pl o).isSome = true := by rw [hpo]; rfl
              rcases L1.m x with h' | ⟨h', h'', h3⟩
              · rw [h'] at h2; exact h2
              · have hx : x = l ∨ (aget S.pl x).isSome = true := .inr (by rcases h3 with rfl | h3; exact hor; exact h3)
                rcases h2 with h2 | ⟨h2, _, _⟩
                · exact .inr ⟨by rw [h2, h'], by omega, hx⟩
                · exact .inr ⟨h2, by omega, hx⟩
            · intro d0 A D0 hl0 hl00 hdone
              have ho0 : dd S o = d0 o ∨ dd S o = -1 := A o
              have A1 : Alive d0 S1 := fun x => by
                rcases L1.m x with h' | h'
                · rw [h']; exact A x
                · exact .inr h'.1
              have hod : dd S o = d0 o := by rcases ho0 with h | h <;> omega
              have DD1 := D1 d0 A D0 hod (by omega)
              refine D d0 A1 DD1 (by rw [hdl, hl0]) hl00 fun x hx hn => ?_
              by_cases ex : x = r
              · subst ex
                refine ⟨fun h => (by rw [L1.pr, hp] at h; cases h), fun o' ho' _ => ?_⟩
                rw [L1.pr, hp] at ho'
                cases ho'
                exact L1.z
              · have := hdone x hx (by simp [ex, hn])
                refine ⟨fun h => by rw [L1.rd]; exact this.1 (by rw [← L1.pr]; exact h), fun o' ho' h => ?_⟩
                have := this.2 o' (by rw [← L1.pr]; exact ho') h
                rcases L1.m o' with h' | h'
                · rw [h', this]
                · exact h'.1
      · rw [if_neg hlev]
        obtain ⟨b, S', e', hw, hl⟩ := ih S G hsub' hab
        refine ⟨b, S', e', hw, fun hb => ⟨(hl hb).1, fun d0 A D hl0 hl00 hdone => (hl hb).2 d0 A D hl0 hl00 fun x hx hn => ?_⟩⟩
        by_cases ex : x = r
        · subst ex
          refine ⟨fun h => (by rw [hp] at h; cases h), fun o' ho' h => ?_⟩
          rw [hp] at ho'; cases ho'
          rcases A o with h' | h'
          · exfalso; omega
          · exact h'
        · exact hdone x hx (by simp [ex, hn])

theorem dfs_spec (n : Nat) : ∀ (S : HS R) (o : Int), Good g S → (∃ row, aget g o = some row) → above g S o < n →
    ∃ b S', dfs g n S o = some (b, S') ∧ (b = true → Won g S o S') ∧ (b = false → Lost g S o S' ∧ ∀ d0, Alive d0 S → Dead g d0 S → dd S o = d0 o → 0 ≤ d0 o → Dead g d0 S') := by
  induction n with
  | zero => intro S o _ _ h; exact absurd h (Nat.not_lt_zero _)
  | succ n ih =>
    rintro S o G ⟨row, hg⟩ hab
    obtain ⟨b, S', e, hw, hl⟩ := dfsRow_spec ih hg row S G (fun _ h => h) hab
    unfold dfs
    simp only [hg]
    exact ⟨b, S', e, hw, fun hb => ⟨(hl hb).1, fun d0 A D h1 h2 => (hl hb).2 d0 A D h1 h2 fun r hr hn => absurd hr hn⟩⟩

theorem above_le (S : HS R) (l : Int) : above g S l ≤ g.length := by
  unfold above
  exact Nat.le_trans (List.length_filter_le _ _) (by simp)

theorem Won.good {S S' : HS R} {l : Int} (W : Won g S l S') (hl : aget S.pl l = none) : Good g S' where
  a := fun r l' h => by
    rcases W.s1 r l' h with h | ⟨_, h⟩
    · exact h
    · rw [hl] at h; cases h
  b := W.s2
  e := W.s4
  n := W.n
  d := W.d
theorem Lost.good {S S' : HS R} {l : Int} (L : Lost g S l S') (G : Good g S) : Good g S' :=
  ⟨by rw [L.pl, L.pr]; exact G.a, by rw [L.pl, L.pr]; exact G.b, by rw [L.pl]; exact G.e, by rw [L.pl]; exact G.n, L.d⟩

/-- a run of one phase: it always ends; where it wins nothing, the free lefts that it met are dead -/
theorem phase_spec (n : Nat) (hn : g.length < n) : ∀ (ls : List Int) (S : HS R) (k : Nat), Good g S → (∀ l ∈ ls, ∃ row, aget g l = some row) → ls.Nodup →
    ∃ S' k', phase g n ls S k = some (S', k') ∧ Good g S' ∧ k' + S.pl.length = k + S'.pl.length ∧ k ≤ k' ∧
      (k' = k → S'.pl = S.pl ∧ S'.pr = S.pr ∧ S'.rd = S.rd ∧ (∀ x, aget S.pl x = none → x ∉ ls → dd S' x = dd S x) ∧
        (∀ d0, Alive d0 S → Dead g d0 S → (∀ x ∈ ls, aget S.pl x = none → dd S x = d0 x ∧ 0 ≤ d0 x) → Alive d0 S' ∧ Dead g d0 S') ∧ ∀ x ∈ ls, aget S.pl x = none → dd S' x = -1) := by
  intro ls
  induction ls with
  | nil =>
    intro S k G _ _
    exact ⟨S, k, rfl, G, rfl, Nat.le_refl _, fun _ => ⟨rfl, rfl, rfl, fun _ _ _ => rfl, fun _ A D _ => ⟨A, D⟩, by simp⟩⟩
  | cons l ls ih =>
    intro S k G hk hnd
    rw [List.nodup_cons] at hnd
    have hk' : ∀ l ∈ ls, ∃ row, aget g l = some row := fun x hx => hk x (List.mem_cons_of_mem _ hx)
    unfold phase
    cases hp : aget S.pl l with
    | some r =>
      rw [if_pos (by rfl)]
      obtain ⟨S', k', e, G', h1, h2, h3⟩ := ih S k G hk' hnd.2
      refine ⟨S', k', e, G', h1, h2, fun hkk => ?_⟩
      obtain ⟨a, b, c, d, f, i⟩ := h3 hkk
      refine ⟨a, b, c, fun x hx hn' => d x hx fun q => hn' (List.mem_cons_of_mem _ q), fun d0 A D hd0 => f d0 A D fun x hx => hd0 x (List.mem_cons_of_mem _ hx), fun x hx hx' => ?_⟩
      rcases List.mem_cons.mp hx with rfl | hx
      · rw [hp] at hx'; cases hx'
      · exact i x hx hx'
    | none =>
      rw [if_neg (by simp)]
      obtain ⟨b, S1, e1, hw, hl⟩ := dfs_spec n S l G (hk l List.mem_cons_self) (Nat.lt_of_le_of_lt (above_le S l) hn)
      rw [e1]
      cases b with
      | true =>
        have W := hw rfl
        obtain ⟨S', k', e, G', h1, h2, h3⟩ := ih S1 (k + 1) (W.good hp) hk' hnd.2
        have hlen := W.len
        rw [hp] at hlen
        simp only [Option.isSome_none, Bool.false_eq_true, if_false] at hlen
        refine ⟨S', k', by simpa using e, G', by omega, by omega, fun hkk => by omega⟩
      | false =>
        obtain ⟨L, D1⟩ := hl rfl
        obtain ⟨S', k', e, G', h1, h2, h3⟩ := ih S1 k (L.good G) hk' hnd.2
        rw [L.pl] at h1 h3
        refine ⟨S', k', by simpa using e, G', h1, h2, fun hkk => ?_⟩
        obtain ⟨a, b, c, d, f, i⟩ := h3 hkk
        refine ⟨a, by rw [b, L.pr], by rw [c, L.rd], fun x hx hn' => ?_, fun d0 A D hd0 => ?_, fun x hx hx' => ?_⟩
        · rw [d x hx fun q => hn' (List.mem_cons_of_mem _ q)]
          rcases L.m x with h | ⟨_, _, h | h⟩
          · exact h
          · exact absurd (h ▸ List.mem_cons_self) hn'
          · rw [hx] at h; cases h
        · have hl0 := hd0 l List.mem_cons_self hp
          refine f d0 (fun x => ?_) (D1 d0 A D hl0.1 hl0.2) fun x hx hx' => ?_
          · rcases L.m x with h | h
            · rw [h]; exact A x
            · exact .inr h.1
          · rcases L.m x with h | ⟨_, _, h | h⟩
            · rw [h]; exact hd0 x (List.mem_cons_of_mem _ hx) hx'
            · exact absurd (h ▸ hx) hnd.1
            · rw [hx'] at h; cases h
        · rcases List.mem_cons.mp hx with rfl | hx
          · rw [d x hx' hnd.1]; exact L.z
          · exact i x hx hx'
end law
end HKP
end SHKDfs

section SHKBfs
namespace HKP
section law
variable {R : Type} [DecidableEq R] {g : List (Int × List R)}

/-- what the search knows at any time; pl, pr stand still -/
structure Srch (g : List (Int × List R)) (S₀ S : HS R) : Prop where
  pl : S.pl = S₀.pl
  pr : S.pr = S₀.pr
  d : ∀ l row, aget g l = some row → ∃ x, aget S.dl l = some x
  lo : ∀ x ∈ g.map (·.1), -1 ≤ dd S x
  free : ∀ x ∈ g.map (·.1), aget S.pl x = none → dd S x = 0
  par : ∀ x ∈ g.map (·.1), 0 ≤ dd S x → (aget S.pl x = none ∧ dd S x = 0) ∨
    ∃ y row r, aget g y = some row ∧ r ∈ row ∧ aget S.pr r = some x ∧ 0 ≤ dd S y ∧ dd S x = dd S y + 1
  wit : S.rd ≠ -1 → ∃ y row r, aget g y = some row ∧ r ∈ row ∧ aget S.pr r = none ∧ 0 ≤ dd S y ∧ S.rd = dd S y + 1

/-- a row that is wholly served while nothing free was met -/
def Served (S : HS R) (rs : List R) : Prop := ∀ r ∈ rs, ∃ o, aget S.pr r = some o ∧ 0 ≤ dd S o

def unseen (g : List (Int × List R)) (S : HS R) : Nat := ((g.map (·.1)).filter fun x => decide (dd S x = -1)).length

theorem dd_put (S : HS R) (l d x : Int) : dd { S with dl := aput S.dl l d } x = if x = l then d else dd S x := by
  unfold dd; dsimp only; rw [aget_aput]; split <;> rfl
theorem dd_rd (S : HS R) (d x : Int) : dd { S with rd := d } x = dd S x := rfl
theorem key_row {x : Int} : x ∈ g.map (·.1) ↔ ∃ row, aget g x = some row := by
  rw [← aget_isSome_iff, Option.isSome_iff_exists]

theorem filter_same {α : Type} {p q : α → Bool} : ∀ {l : List α}, (∀ x ∈ l, p x = q x) → (l.filter p).length = (l.filter q).length := by
  intro l h; rw [List.filter_congr h]

theorem bfsInit_spec : ∀ (ls : List Int) (q : List Int) (S : HS R) (done : List Int), (done ++ ls).Nodup →
    (∀ x ∈ done, (∃ y, aget S.dl x = some y) ∧ ((aget S.pl x = none ∧ dd S x = 0 ∧ x ∈ q) ∨ ((aget S.pl x).isSome = true ∧ dd S x = -1))) → (∀ x ∈ q, x ∈ done ∧ dd S x = 0) →
    q.length + (done.filter fun x => decide (dd S x = -1)).length = done.length →
    ∃ q' S', bfsInit ls q S = (q', S') ∧ S'.pl = S.pl ∧ S'.pr = S.pr ∧
      (∀ x ∈ done ++ ls, (∃ y, aget S'.dl x = some y) ∧ ((aget S.pl x = none ∧ dd S' x = 0 ∧ x ∈ q') ∨ ((aget S.pl x).isSome = true ∧ dd S' x = -1))) ∧ (∀ x ∈ q', x ∈ done ++ ls ∧ dd S' x = 0) ∧
      q'.length + ((done ++ ls).filter fun x => decide (dd S' x = -1)).length = (done ++ ls).length := by
  intro ls
  induction ls with
  | nil =>
    intro q S done _ h1 h5 h7
    rw [List.append_nil]
    exact ⟨q, S, rfl, rfl, rfl, h1, h5, h7⟩
  | cons l ls ih =>
    intro q S done hnd h1 h5 h7
    have e : done ++ l :: ls = (done ++ [l]) ++ ls := by simp
    have hl : l ∉ done := by
      intro h
      rw [List.nodup_append] at hnd
      exact hnd.2.2 l h l List.mem_cons_self rfl
    unfold bfsInit
    rw [e] at hnd ⊢
    cases hp : aget S.pl l with
    | some r =>
      rw [if_pos (by rfl)]
      refine ih q { S with dl := aput S.dl l (-1) } (done ++ [l]) hnd ?_ ?_ ?_
      · intro x hx
        rw [dd_put]
        dsimp only
        rw [aget_aput]
        by_cases ex : x = l
        · subst ex; simp [hp]
        · simp only [if_neg ex]
          exact h1 x (by simpa [ex] using hx)
      · intro x hx
        have hne : x ≠ l := fun q => hl (q ▸ (h5 x hx).1)
        exact ⟨List.mem_append_left _ (h5 x hx).1, by rw [dd_put, if_neg hne]; exact (h5 x hx).2⟩
      · rw [List.filter_append, List.length_append, List.length_append]
        have hsame : (done.filter fun x => decide (dd { S with dl := aput S.dl l (-1) } x = -1)).length = (done.filter fun x => decide (dd S x = -1)).length := filter_same fun x hx => by
          have hne : x ≠ l := fun q => hl (q ▸ hx)
          rw [dd_put, if_neg hne]
        rw [hsame]
        simp only [dd_put, List.filter_cons, if_true, decide_true, List.filter_nil, List.length_cons, List.length_nil]
        omega
    | none =>
      rw [if_neg (by simp)]
      refine ih (q ++ [l]) { S with dl := aput S.dl l 0 } (done ++ [l]) hnd ?_ ?_ ?_
      · intro x hx
        rw [dd_put]
        dsimp only
        rw [aget_aput]
        by_cases ex : x = l
        · subst ex; simp [hp]
        · simp only [if_neg ex]
          have := h1 x (by simpa [ex] using hx)
          refine ⟨this.1, this.2.imp (fun h => ⟨h.1, h.2.1, List.mem_append_left _ h.2.2⟩) id⟩
      · intro x hx
        rcases List.mem_append.mp hx with h | h
        · have hne : x ≠ l := fun q => hl (q ▸ (h5 x h).1)
          exact ⟨List.mem_append_left _ (h5 x h).1, by rw [dd_put, if_neg hne]; exact (h5 x h).2⟩
        · obtain rfl := List.mem_singleton.mp h
          exact ⟨List.mem_append_right _ h, by rw [dd_put, if_pos rfl]⟩
      · rw [List.filter_append, List.length_append, List.length_append, List.length_append]
        have hsame : (done.filter fun x => decide (dd { S with dl := aput S.dl l 0 } x = -1)).length = (done.filter fun x => decide (dd S x = -1)).length := filter_same fun x hx => by
          have hne : x ≠ l := fun q => hl (q ▸ hx)
          rw [dd_put, if_neg hne]
        rw [hsame]
        have : ¬ (0 : Int) = -1 := by omega
        simp only [dd_put, List.filter_cons, if_true, this, decide_false, List.filter_nil, List.length_cons, List.length_nil]
        simp; omega

theorem bfsRow_spec {S₀ : HS R} (G : Good g S₀) {l : Int} {row : List R} (hg : aget g l = some row) : ∀ (rs : List R) (q : List Int) (S : HS R) (pre : List R), pre ++ rs = row → Srch g S₀ S → 0 ≤ dd S l →
    (∀ x ∈ q, x ∈ g.map (·.1) ∧ 0 ≤ dd S x) → (S.rd = -1 → Served S pre) →
    ∃ q' S', bfsRow l rs q S = some (q', S') ∧ Srch g S₀ S' ∧ (∀ x ∈ q', x ∈ g.map (·.1) ∧ 0 ≤ dd S' x) ∧ (∀ x, 0 ≤ dd S x → dd S' x = dd S x) ∧ (S'.rd = -1 → S.rd = -1 ∧ Served S' row) ∧
      (∀ x ∈ q, x ∈ q') ∧ (∀ x ∈ g.map (·.1), 0 ≤ dd S' x → x ∈ q' ∨ 0 ≤ dd S x) ∧ q'.length + unseen g S' ≤ q.length + unseen g S := by
  intro rs
  induction rs with
  | nil =>
    intro q S pre hpre K hl hq hs
    rw [List.append_nil] at hpre
    subst hpre
    exact ⟨q, S, rfl, K, hq, fun _ _ => rfl, fun h => ⟨h, hs h⟩, fun _ h => h, fun x _ h => .inr h, Nat.le_refl _⟩
  | cons r rs ih =>
    intro q S pre hpre K hl hq hs
    have hpre' : (pre ++ [r]) ++ rs = row := by simpa using hpre
    have hr : r ∈ row := by rw [← hpre]; simp
    obtain ⟨d, hd⟩ := K.d l row hg
    have hdd := dd_of hd
    unfold bfsRow
    cases hp : aget S.pr r with
    | none =>
      dsimp only
      by_cases hrd : S.rd = -1
      · rw [if_pos hrd]
        simp only [hd]
        have hne : ¬ d + 1 = -1 := by omega
        obtain ⟨q', S', e, K', h1, h2, h3, h4, h5, h6⟩ := ih q { S with rd := d + 1 } (pre ++ [r]) hpre'
          ⟨K.pl, K.pr, K.d, K.lo, K.free, K.par, fun _ => ⟨l, row, r, hg, hr, hp, hl, by show d + 1 = dd S l + 1; omega⟩⟩ hl hq (fun h => absurd h hne)
        exact ⟨q', S', e, K', h1, h2, fun h => absurd (h3 h).1 hne, h4, h5, h6⟩
      · rw [if_neg hrd]
        exact ih q S (pre ++ [r]) hpre' K hl hq (fun h => absurd h hrd)
    | some o =>
      have hpo : aget S.pl o = some r := by rw [K.pl]; exact G.a _ _ (by rw [← K.pr]; exact hp)
      obtain ⟨rowo, hgo, _⟩ := G.e o r (by rw [← K.pl]; exact hpo)
      have hko : o ∈ g.map (·.1) := key_row.mpr ⟨_, hgo⟩
      obtain ⟨e, he⟩ := K.d o rowo hgo
      have hee := dd_of he
      have hlo := K.lo o hko
      simp only [he]
      by_cases hn : e = -1
      · rw [if_pos hn]
        simp only [hd]
        have hdp : ∀ x, dd { S with dl := aput S.dl o (d + 1) } x = if x = o then d + 1 else dd S x := dd_put S o (d + 1)
        have up : ∀ x, 0 ≤ dd S x → dd { S with dl := aput S.dl o (d + 1) } x = dd S x := by
          intro x hx
          rw [hdp, if_neg]
          rintro rfl
          omega
        have K2 : Srch g S₀ { S with dl := aput S.dl o (d + 1) } := by
          refine ⟨K.pl, K.pr, ?_, ?_, ?_, ?_, ?_⟩
          · intro x row' hx
            dsimp only
            rw [aget_aput]
            split
            · exact ⟨_, rfl⟩
            · exact K.d x row' hx
          · intro x hx
            rw [hdp]
            split
            · omega
            · exact K.lo x hx
          · intro x hx hx'
            rw [hdp, if_neg]
            · exact K.free x hx hx'
            · rintro rfl
              have : aget S.pl x = none := hx'
              rw [hpo] at this; cases this
          · intro x hx h0
            rw [hdp] at h0
            by_cases ex : x = o
            · subst ex
              exact .inr ⟨l, row, r, hg, hr, hp, by rw [up l hl]; exact hl, by rw [up l hl, hdp, if_pos rfl, hdd]⟩
            · rw [if_neg ex] at h0
              rw [hdp, if_neg ex]
              rcases K.par x hx h0 with h | ⟨y, row', r', a, b, c, d', e'⟩
              · exact .inl h
              · exact .inr ⟨y, row', r', a, b, c, by rw [up y d']; exact d', by rw [up y d']; exact e'⟩
          · intro h
            obtain ⟨y, row', r', a, b, c, d', e'⟩ := K.wit h
            exact ⟨y, row', r', a, b, c, by rw [up y d']; exact d', by rw [up y d']; exact e'⟩
        have hl2 : 0 ≤ dd { S with dl := aput S.dl o (d + 1) } l := by rw [up l hl]; exact hl
        have hq2 : ∀ x ∈ q ++ [o], x ∈ g.map (·.1) ∧ 0 ≤ dd { S with dl := aput S.dl o (d + 1) } x := by
          intro x hx
          rcases List.mem_append.mp hx with h | h
          · exact ⟨(hq x h).1, by rw [up x (hq x h).2]; exact (hq x h).2⟩
          · obtain rfl := List.mem_singleton.mp h
            exact ⟨hko, by rw [hdp, if_pos rfl]; omega⟩
        have hs2 : ({ S with dl := aput S.dl o (d + 1) } : HS R).rd = -1 → Served { S with dl := aput S.dl o (d + 1) } (pre ++ [r]) := by
          intro h r' hr'
          rcases List.mem_append.mp hr' with h' | h'
          · obtain ⟨o', a, b⟩ := hs h r' h'
            exact ⟨o', a, by rw [up o' b]; exact b⟩
          · obtain rfl := List.mem_singleton.mp h'
            exact ⟨o, hp, by rw [hdp, if_pos rfl]; omega⟩
        obtain ⟨q', S', e', K', h1, h2, h3, h4, h5, h6⟩ := ih (q ++ [o]) { S with dl := aput S.dl o (d + 1) } (pre ++ [r]) hpre' K2 hl2 hq2 hs2
        refine ⟨q', S', e', K', h1, fun x hx => ?_, h3, fun x hx => h4 x (List.mem_append_left _ hx), fun x hx h => ?_, ?_⟩
        · have := h2 x (by rw [up x hx]; exact hx)
          rw [this, up x hx]
        · rcases h5 x hx h with h | h
          · exact .inl h
          · rw [hdp] at h
            by_cases ex : x = o
            · subst ex; exact .inl (h4 x (by simp))
            · rw [if_neg ex] at h; exact .inr h
        · refine Nat.le_trans h6 ?_
          have : unseen g { S with dl := aput S.dl o (d + 1) } < unseen g S := by
            unfold unseen
            refine filter_lt (a := o) (fun x _ h => ?_) hko (by simp; omega) (by rw [hdp, if_pos rfl]; simp; omega)
            simp only [decide_eq_true_eq] at h ⊢
            rw [hdp] at h
            by_cases ex : x = o
            · rw [if_pos ex] at h; omega
            · rw [if_neg ex] at h; exact h
          rw [List.length_append, List.length_singleton]; omega
      · rw [if_neg hn]
        refine ih q S (pre ++ [r]) hpre' K hl hq (fun h r' hr' => ?_)
        rcases List.mem_append.mp hr' with h' | h'
        · exact hs h r' h'
        · obtain rfl := List.mem_singleton.mp h'
          exact ⟨o, hp, by omega⟩

theorem Srch.served {S₀ S S' : HS R} (K : Srch g S₀ S) (K' : Srch g S₀ S') (h : ∀ x, 0 ≤ dd S x → dd S' x = dd S x) {rs : List R} (x : Served S rs) : Served S' rs := fun r hr => by
  obtain ⟨o, a, b⟩ := x r hr
  exact ⟨o, by rw [K'.pr, ← K.pr]; exact a, by rw [h o b]; exact b⟩

theorem bfsLoop_spec {S₀ : HS R} (G : Good g S₀) : ∀ (n : Nat) (q : List Int) (S : HS R), q.length + unseen g S < n → Srch g S₀ S → (∀ x ∈ q, x ∈ g.map (·.1) ∧ 0 ≤ dd S x) →
    (S.rd = -1 → ∀ x row, aget g x = some row → 0 ≤ dd S x → x ∈ q ∨ Served S row) →
    ∃ S', bfsLoop g n q S = some S' ∧ Srch g S₀ S' ∧ (S'.rd = -1 → ∀ x row, aget g x = some row → 0 ≤ dd S' x → Served S' row) := by
  intro n
  induction n with
  | zero => intro q S h; exact absurd h (Nat.not_lt_zero _)
  | succ n ih =>
    intro q S hn K hq hs
    cases q with
    | nil => exact ⟨S, rfl, K, fun h x row hx h0 => (hs h x row hx h0).resolve_left (by simp)⟩
    | cons l q =>
      obtain ⟨hkl, hl⟩ := hq l List.mem_cons_self
      obtain ⟨row, hg⟩ := key_row.mp hkl
      obtain ⟨d, hd⟩ := K.d l row hg
      have hdd := dd_of hd
      have hq' : ∀ x ∈ q, x ∈ g.map (·.1) ∧ 0 ≤ dd S x := fun x hx => hq x (List.mem_cons_of_mem _ hx)
      simp only [List.length_cons] at hn
      unfold bfsLoop
      simp only [hd]
      rw [if_neg (by omega)]
      by_cases hc : S.rd = -1 ∨ d < S.rd
      · rw [if_pos hc]
        simp only [hg]
        obtain ⟨q', S', e, K', h1, h2, h3, h4, h5, h6⟩ := bfsRow_spec G hg row q S [] rfl K hl hq' (fun _ _ h => by cases h)
        rw [e]
        refine ih q' S' (by omega) K' h1 fun h x row' hx h0 => ?_
        have hx' := key_row.mpr ⟨_, hx⟩
        obtain ⟨h7, h8⟩ := h3 h
        rcases h5 x hx' h0 with hh | hh
        · exact .inl hh
        · rcases hs h7 x row' hx hh with hm | hm
          · rcases List.mem_cons.mp hm with rfl | hm
            · have : row' = row := by rw [hg] at hx; exact (Option.some.inj hx).symm
              subst this
              exact .inr h8
            · exact .inl (h4 x hm)
          · exact .inr (K.served K' h2 hm)
      · rw [if_neg hc]
        exact ih q S (by omega) K hq' (fun h => absurd (.inl h) hc)

theorem bfs_spec {S₀ : HS R} (G : Good g S₀) (hnd : (g.map (·.1)).Nodup) {n : Nat} (hn : g.length < n) :
    ∃ S', bfs g n S₀ = some S' ∧ Srch g S₀ S' ∧ (S'.rd = -1 → ∀ x row, aget g x = some row → 0 ≤ dd S' x → Served S' row) := by
  obtain ⟨q, S, e, h1, h2, h3, h4, h5⟩ := bfsInit_spec (g.map (·.1)) [] S₀ [] (by simpa using hnd) (by simp) (by simp) (by simp)
  simp only [List.nil_append] at h3 h4 h5
  unfold bfs
  rw [e]
  have hdd : ∀ x, dd { S with rd := -1 } x = dd S x := fun _ => rfl
  refine bfsLoop_spec G n q { S with rd := -1 } ?_ ⟨h1, h2, ?_, ?_, ?_, ?_, ?_⟩ ?_ ?_
  · have : q.length + unseen g { S with rd := -1 } = (g.map (·.1)).length := h5
    rw [this, List.length_map]; exact hn
  · intro l row hl
    exact (h3 l (key_row.mpr ⟨_, hl⟩)).1
  · intro x hx
    rw [hdd]
    rcases (h3 x hx).2 with h | h <;> omega
  · intro x hx hf
    rw [hdd]
    have hf' : aget S.pl x = none := hf
    rw [h1] at hf'
    rcases (h3 x hx).2 with h | h
    · exact h.2.1
    · rw [hf'] at h; simp at h
  · intro x hx h0
    rw [hdd] at h0
    rcases (h3 x hx).2 with h | h
    · exact .inl ⟨by show aget S.pl x = none; rw [h1]; exact h.1, h.2.1⟩
    · omega
  · intro h; exact absurd rfl h
  · intro x hx
    refine ⟨(h4 x hx).1, ?_⟩
    rw [hdd, (h4 x hx).2]
    omega
  · intro _ x row hx h0
    rw [hdd] at h0
    rcases (h3 x (key_row.mpr ⟨_, hx⟩)).2 with h | h
    · exact .inl h.2.2
    · omega
end law
end HKP
end SHKBfs

section SHKLaw1
local macro_rules | `(tactic| walk_at "no such key") => `(tactic| skip)
namespace HKP
section law
variable {R : Type} [DecidableEq R] {g : List (Int × List R)}

theorem Good.len {S : HS R} (G : Good g S) : S.pl.length ≤ g.length := by
  have := nodup_le (l := S.pl.map (·.1)) (m := g.map (·.1)) G.n fun x hx => by
    have := (aget_isSome_iff S.pl x).mpr hx
    obtain ⟨r, hr⟩ := Option.isSome_iff_exists.mp this
    obtain ⟨row, h, _⟩ := G.e x r hr
    exact key_row.mpr ⟨row, h⟩
  simpa using this

theorem Srch.good {S₀ S : HS R} (K : Srch g S₀ S) (G : Good g S₀) : Good g S :=
  ⟨by rw [K.pl, K.pr]; exact G.a, by rw [K.pl, K.pr]; exact G.b, by rw [K.pl]; exact G.e, by rw [K.pl]; exact G.n, K.d⟩

theorem progress {S₀ S S' : HS R} (K : Srch g S₀ S) (hrd : S.rd ≠ -1) (hpr : S'.pr = S.pr) (hr : S'.rd = S.rd) (D : Dead g (dd S) S')
    (hf : ∀ x ∈ g.map (·.1), aget S.pl x = none → dd S' x = -1) : False := by
  have all : ∀ n : Nat, ∀ x ∈ g.map (·.1), 0 ≤ dd S x → (dd S x).toNat < n → dd S' x = -1 := by
    intro n
    induction n with
    | zero => intro x _ _ h; exact absurd h (Nat.not_lt_zero _)
    | succ n ih =>
      intro x hx h0 hn
      rcases K.par x hx h0 with h | ⟨y, row, r, a, b, c, d, e⟩
      · exact hf x hx h.1
      · have hy := ih y (key_row.mpr ⟨_, a⟩) d (by omega)
        exact (D y row a hy d r b).2 x (by rw [hpr]; exact c) e
  obtain ⟨y, row, r, a, b, c, d, e⟩ := K.wit hrd
  have hy := all _ y (key_row.mpr ⟨_, a⟩) d (Nat.lt_succ_self _)
  exact (D y row a hy d r b).1 (by rw [hpr]; exact c) (by rw [hr]; exact e)

structure Best (g : List (Int × List R)) (S : HS R) : Prop where
  good : Good g S
  rd : S.rd = -1
  free : ∀ x row, aget g x = some row → aget S.pl x = none → 0 ≤ dd S x
  served : ∀ x row, aget g x = some row → 0 ≤ dd S x → Served S row

theorem hkLoop_spec (hnd : (g.map (·.1)).Nodup) {n : Nat} (hn : g.length < n) : ∀ (f : Nat) (S : HS R) (k : Nat), Good g S → g.length - S.pl.length < f → S.pl.length = k →
    ∃ S' k', hkLoop g n f S k = some (S', k') ∧ Best g S' ∧ S'.pl.length = k' := by
  intro f
  induction f with
  | zero => intro S k _ h; exact absurd h (Nat.not_lt_zero _)
  | succ f ih =>
    intro S k G hf hk
    obtain ⟨S1, e1, K, hs⟩ := bfs_spec G hnd hn
    unfold hkLoop
    rw [e1]
    dsimp only
    by_cases hrd : S1.rd = -1
    · rw [if_pos hrd]
      refine ⟨S1, k, rfl, ⟨K.good G, hrd, fun x row hx hfree => ?_, hs hrd⟩, by rw [K.pl]; exact hk⟩
      rw [K.free x (key_row.mpr ⟨_, hx⟩) hfree]; omega
    · rw [if_neg hrd]
      have G1 := K.good G
      obtain ⟨S2, k2, e2, G2, h1, h2, h3⟩ := phase_spec n hn (g.map (·.1)) S1 k G1 (fun l hl => key_row.mp hl) hnd
      rw [e2]
      dsimp only
      have hlt : k < k2 := by
        rcases Nat.lt_or_ge k k2 with h | h
        · exact h
        · exfalso
          obtain ⟨_, a, b, _, c, d⟩ := h3 (by omega)
          refine progress K hrd a b (c (dd S1) (fun x => .inl rfl) (fun x row _ h0 h1 => by omega) fun x hx hx' => ⟨rfl, ?_⟩).2 d
          rw [K.free x hx hx']; omega
      have hlen := G2.len
      have hlen1 := G1.len
      have hpl : S1.pl.length = S.pl.length := by rw [K.pl]
      exact ih S2 k2 G2 (by omega) (by omega)

theorem dl0_all (ls : List Int) : ∀ (acc : List (Int × Int)) (l : Int), l ∈ ls ∨ (∃ x, aget acc l = some x) → ∃ x, aget (ls.foldl (fun d l => aput d l (-1)) acc) l = some x := by
  induction ls with
  | nil => intro acc l h; exact h.resolve_left (by simp)
  | cons a ls ih =>
    intro acc l h
    rw [List.foldl_cons]
    refine ih _ l ?_
    rcases h with h | ⟨x, h⟩
    · rcases List.mem_cons.mp h with rfl | h
      · exact .inr ⟨-1, by rw [aget_aput, if_pos rfl]⟩
      · exact .inl h
    · refine .inr ?_
      rw [aget_aput]
      split
      · exact ⟨_, rfl⟩
      · exact ⟨x, h⟩

theorem hk_ok (hnd : (g.map (·.1)).Nodup) (rd : Int) : ∃ S k, hkRun g rd = some (S, k) ∧ Best g S ∧ S.pl.length = k := by
  refine hkLoop_spec hnd (by omega) (g.length + 2) _ 0 ⟨?_, ?_, ?_, ?_, ?_⟩ (by simp) rfl
  · intro r l h; cases h
  · intro r l h; cases h
  · intro r l h; cases h
  · exact List.nodup_nil
  · intro l row h
    exact dl0_all _ [] l (.inl (key_row.mpr ⟨_, h⟩))
end law
end HKP
end SHKLaw1

section SHKRules
local macro_rules | `(tactic| walk_at "no such key") => `(tactic| skip)
local macro_rules | `(tactic| walk_at "no such key") => `(tactic| skip)
set_option maxRecDepth 100000
namespace HKP
open PySem PySem.W PyProof.Rows PySem.Spec PySem.Calls

/-! a dict's pairs told by plain data -/
section rep
variable {K δ : Type} [DecidableEq K]
inductive Rep (R : δ → Value → Prop) : List (K × Value) → List (K × δ) → Prop
  | nil : Rep R [] []
  | cons {k : K} {v : Value} {d : δ} {a : List (K × Value)} {b : List (K × δ)} : R d v → Rep R a b → Rep R ((k, v) :: a) ((k, d) :: b)
variable {R : δ → Value → Prop}
theorem Rep.keys {kv : List (K × Value)} {l : List (K × δ)} (h : Rep R kv l) : kv.map (·.1) = l.map (·.1) := by
  induction h with
  | nil => rfl
  | cons _ _ ih => rw [List.map_cons, List.map_cons, ih]
theorem Rep.length {kv : List (K × Value)} {l : List (K × δ)} (h : Rep R kv l) : kv.length = l.length := by
  have := congrArg List.length h.keys
  simpa using this
theorem valueAt_eq (kv : List (K × Value)) (k : K) : valueAt kv k = aget kv k := rfl
theorem stored_eq (kv : List (K × Value)) (k : K) (v : Value) : stored kv k v = aput kv k v := rfl
theorem Rep.none_iff {kv : List (K × Value)} {l : List (K × δ)} (h : Rep R kv l) (k : K) : (valueAt kv k).isSome = (aget l k).isSome := by
  induction h with
  | nil => rfl
  | @cons k' v d a b _ _ ih =>
    rw [valueAt_eq, aget_cons, aget_cons]
    dsimp only
    split
    · rfl
    · exact ih
theorem Rep.some {kv : List (K × Value)} {l : List (K × δ)} (h : Rep R kv l) {k : K} {d : δ} (hd : aget l k = some d) : ∃ v, valueAt kv k = some v ∧ R d v := by
  induction h with
  | nil => cases hd
  | @cons k' v d' a b hr _ ih =>
    rw [valueAt_eq, aget_cons]
    rw [aget_cons] at hd
    dsimp only at hd ⊢
    by_cases e : k' = k
    · rw [if_pos e] at hd ⊢
      cases hd
      exact ⟨v, rfl, hr⟩
    · rw [if_neg e] at hd ⊢
      exact ih hd
theorem Rep.map {kv : List (K × Value)} {l : List (K × δ)} (h : Rep R kv l) {k : K} {v : Value} {d : δ} (hv : R d v) :
    Rep R (kv.map fun p => if p.1 = k then (p.1, v) else p) (l.map fun p => if p.1 = k then (p.1, d) else p) := by
  induction h with
  | nil => exact .nil
  | @cons k' v' d' a b hr _ ih =>
    rw [List.map_cons, List.map_cons]
    dsimp only
    split
    · exact .cons hv ih
    · exact .cons hr ih
theorem Rep.snoc {kv : List (K × Value)} {l : List (K × δ)} (h : Rep R kv l) {k : K} {v : Value} {d : δ} (hv : R d v) : Rep R (kv ++ [(k, v)]) (l ++ [(k, d)]) := by
  induction h with
  | nil => exact .cons hv .nil
  | cons hr _ ih => exact .cons hr ih
theorem Rep.put {kv : List (K × Value)} {l : List (K × δ)} (h : Rep R kv l) {k : K} {v : Value} {d : δ} (hv : R d v) : Rep R (stored kv k v) (aput l k d) := by
  rw [stored_eq]
  unfold aput
  have e : (kv.any fun p => decide (p.1 = k)) = l.any fun p => decide (p.1 = k) := by rw [any_iff, any_iff]; exact h.none_iff k
  rw [e]
  split
  · exact h.map hv
  · exact h.snoc hv
theorem Rep.mono {R' : δ → Value → Prop} (hm : ∀ d v, R d v → R' d v) {kv : List (K × Value)} {l : List (K × δ)} (h : Rep R kv l) : Rep R' kv l := by
  induction h with
  | nil => exact .nil
  | cons hr _ ih => exact .cons (hm _ _ hr) ih
end rep

abbrev encI (i : Int) (v : Value) : Prop := ∃ t, v = .int i t
abbrev encS (x : Str) (v : Value) : Prop := ∃ t, v = .str x t

section dict
variable {prog : Program} {w : World} {K δ : Type} [DecidableEq K] {knd : PySem.KeyKind prog w K} {R : δ → Value → Prop} {A : Around} {E : Value → Shared → Prop} {s : Shared} {h₀ : Heap} {L d : Addr} {m : Str → Option Value}
  {news : List (Addr × Obj)} {g : Obj → List (Addr × Obj)} {o : Obj} {l : List (K × δ)} {k : K} {key v : Value} {x : δ}

/-- the object is a dict of these data -/
def DR (knd : PySem.KeyKind prog w K) (R : δ → Value → Prop) (o : Obj) (l : List (K × δ)) : Prop := ∃ kv, o.IsDictOf knd kv ∧ Rep R kv l
theorem DR.nodup (h : DR knd R o l) : (l.map (·.1)).Nodup := by
  obtain ⟨kv, ⟨_, _, _, _, _, _, hn⟩, hr⟩ := h
  rw [← hr.keys]; exact hn

theorem dr_item {value slice : PySem.Expr} {Q : Value → Shared → Prop} (N : News h₀ L s.heap news) (hp : (d, o) ∈ news) (hd : DR knd R o l) (hkey : knd.is k key = true) (hl : aget l k = some x)
    (h : ∀ v, R x v → Q v { s with toks := s.toks + 1 })
    (hs : subscripted slice false (.ref d) key = operate [.ref d, key] (getItem (.ref d) key) := by with_unfolding_all rfl) (hg : ∀ r, letTemporaryGo value (.ref d) r = pure () := by intro _; with_unfolding_all rfl) :
    wpAny (model prog w) A (subscriptTail value slice (.ref d) key) Q E s := by
  obtain ⟨kv, hd, hr⟩ := hd
  obtain ⟨v, hv, hx⟩ := hr.some hl
  exact kda_item N hp hd hkey hv (h v hx) hs hg
theorem dr_itemI {l : List (K × Int)} {x : Int} {value slice : PySem.Expr} {Q : Value → Shared → Prop} (N : News h₀ L s.heap news) (hp : (d, o) ∈ news) (hd : DR knd encI o l) (hkey : knd.is k key = true) (hl : aget l k = some x)
    (h : ∀ t, Q (.int x t) { s with toks := s.toks + 1 })
    (hs : subscripted slice false (.ref d) key = operate [.ref d, key] (getItem (.ref d) key) := by with_unfolding_all rfl) (hg : ∀ r, letTemporaryGo value (.ref d) r = pure () := by intro _; with_unfolding_all rfl) :
    wpAny (model prog w) A (subscriptTail value slice (.ref d) key) Q E s := dr_item N hp hd hkey hl (fun v ⟨t, e⟩ => e ▸ h t) hs hg
theorem dr_itemS {l : List (K × Str)} {x : Str} {value slice : PySem.Expr} {Q : Value → Shared → Prop} (N : News h₀ L s.heap news) (hp : (d, o) ∈ news) (hd : DR knd encS o l) (hkey : knd.is k key = true) (hl : aget l k = some x)
    (h : ∀ t, Q (.str x t) { s with toks := s.toks + 1 })
    (hs : subscripted slice false (.ref d) key = operate [.ref d, key] (getItem (.ref d) key) := by with_unfolding_all rfl) (hg : ∀ r, letTemporaryGo value (.ref d) r = pure () := by intro _; with_unfolding_all rfl) :
    wpAny (model prog w) A (subscriptTail value slice (.ref d) key) Q E s := dr_item N hp hd hkey hl (fun v ⟨t, e⟩ => e ▸ h t) hs hg
theorem dr_getItem {Q : Value → Shared → Prop} (N : News h₀ L s.heap news) (hp : (d, o) ∈ news) (hd : DR knd R o l) (hkey : knd.is k key = true) (hl : aget l k = some x)
    (h : ∀ v, R x v → Q v { s with toks := s.toks + 1 }) : wpAny (model prog w) A (getItem (.ref d) key) Q E s := by
  obtain ⟨kv, hd, hr⟩ := hd
  obtain ⟨v, hv, hx⟩ := hr.some hl
  exact kdt_getItem N hp hd hkey hv (h v hx)
theorem dr_in {Q : Value → Shared → Prop} (N : News h₀ L s.heap news) (hp : (d, o) ∈ news) (hd : DR knd R o l) (lo : (d == sysModules) = false) (hkey : knd.is k key = true)
    (h : Q (.bool (aget l k).isSome) { s with toks := s.toks + 1 }) : wpAny (model prog w) A (compareOp .In key (.ref d)) Q E s := by
  obtain ⟨kv, hd, hr⟩ := hd
  exact kda_in N hp hd lo hkey _ (hr.none_iff k) h
theorem dr_notin {Q : Value → Shared → Prop} (N : News h₀ L s.heap news) (hp : (d, o) ∈ news) (hd : DR knd R o l) (lo : (d == sysModules) = false) (hkey : knd.is k key = true)
    (h : Q (.bool (!(aget l k).isSome)) { s with toks := s.toks + 1 }) : wpAny (model prog w) A (compareOp .NotIn key (.ref d)) Q E s := by
  obtain ⟨kv, hd, hr⟩ := hd
  exact kdg_notin N hp hd lo hkey _ (hr.none_iff k) h
theorem dr_set {Q : Unit → Shared → Prop} (F : Fr h₀ L s.heap m) (N : News h₀ L s.heap news) (U : UpdF d o news g) (hd : DR knd R o l) (hkey : knd.is k key = true) (hv : R x v) (hsz : l.length ≤ 1000)
    (h : ∀ h' o', Fr h₀ L h' m → News h₀ L h' (g o') → DR knd R o' (aput l k x) → Q () { s with heap := h', toks := s.toks + 1 }) : wpAny (model prog w) A (setItem (.ref d) key v) Q E s := by
  obtain ⟨kv, hd, hr⟩ := hd
  refine kda_set F N U hd hkey (by rw [hr.length, sizeLine_eq]; omega) fun h' o' F' N' hd' => h h' o' F' N' ⟨_, hd', hr.put hv⟩
theorem dr_clear {Q : Value → Shared → Prop} (F : Fr h₀ L s.heap m) (N : News h₀ L s.heap news) (U : UpdF d o news g) (hd : DR knd R o l) (hsz : l.length ≤ 1000)
    (h : ∀ h' o', Fr h₀ L h' m → News h₀ L h' (g o') → DR knd R o' [] → Q .none { s with heap := h' }) : wpAny (model prog w) A (call (.builtin "dict.clear") [.ref d]) Q E s := by
  obtain ⟨kv, hd, hr⟩ := hd
  obtain ⟨pre, post, rfl, hg, a, b⟩ := U.split
  exact call_clear_madeIn (enc := fun _ => PyData.none) (hsz := by rw [hr.length, sizeLine_eq]; omega) F N a b hd fun h' o' F' N' x _ => h h' o' F' (hg o' ▸ N') ⟨_, x, .nil⟩
theorem dr_clearM {pl : Sem Bool} {Q : Value × List Value → Shared → Prop} (N : News h₀ L s.heap news) (hp : (d, o) ∈ news) (hd : DR knd R o l) (h : Q (.builtin "dict.clear", [.ref d]) s) :
    wpAny (model prog w) A (getMethod (.ref d) "clear" pl) Q E s := by
  obtain ⟨kv, hd, hr⟩ := hd
  have hD := kda_dict N hp hd
  exact getMethod_builtin hD.typeIs PySem.F.plainAttrs_dict PySem.F.slot_dict_clear PySem.F.type_dict_clear hD.mapOf.noDict h
theorem dr_itemsM {pl : Sem Bool} {Q : Value × List Value → Shared → Prop} (N : News h₀ L s.heap news) (hp : (d, o) ∈ news) (hd : DR knd R o l) (h : Q (.builtin "dict.items", [.ref d]) s) :
    wpAny (model prog w) A (getMethod (.ref d) "items" pl) Q E s := by
  obtain ⟨kv, hd, hr⟩ := hd
  have hD := kda_dict N hp hd
  exact getMethod_builtin hD.typeIs PySem.F.plainAttrs_dict PySem.F.slot_dict_items PySem.F.type_dict_items hD.mapOf.noDict h
theorem dr_notin_t {Q : Value → Shared → Prop} (N : News h₀ L s.heap news) (hp : (d, o) ∈ news) (hd : DR knd R o l) (lo : (d == sysModules) = false) (hkey : knd.is k key = true) (hl : aget l k = none)
    (h : Q (.bool true) { s with toks := s.toks + 1 }) : wpAny (model prog w) A (compareOp .NotIn key (.ref d)) Q E s := dr_notin N hp hd lo hkey (by rw [hl]; exact h)
theorem dr_notin_f {Q : Value → Shared → Prop} (N : News h₀ L s.heap news) (hp : (d, o) ∈ news) (hd : DR knd R o l) (lo : (d == sysModules) = false) (hkey : knd.is k key = true) (hl : aget l k = some x)
    (h : Q (.bool false) { s with toks := s.toks + 1 }) : wpAny (model prog w) A (compareOp .NotIn key (.ref d)) Q E s := dr_notin N hp hd lo hkey (by rw [hl]; exact h)
theorem dr_in_t {Q : Value → Shared → Prop} (N : News h₀ L s.heap news) (hp : (d, o) ∈ news) (hd : DR knd R o l) (lo : (d == sysModules) = false) (hkey : knd.is k key = true) (hl : aget l k = some x)
    (h : Q (.bool true) { s with toks := s.toks + 1 }) : wpAny (model prog w) A (compareOp .In key (.ref d)) Q E s := dr_in N hp hd lo hkey (by rw [hl]; exact h)
theorem dr_in_f {Q : Value → Shared → Prop} (N : News h₀ L s.heap news) (hp : (d, o) ∈ news) (hd : DR knd R o l) (lo : (d == sysModules) = false) (hkey : knd.is k key = true) (hl : aget l k = none)
    (h : Q (.bool false) { s with toks := s.toks + 1 }) : wpAny (model prog w) A (compareOp .In key (.ref d)) Q E s := dr_in N hp hd lo hkey (by rw [hl]; exact h)
/-- an item of a dict that stands in the base -/
theorem dh_item {kv : List (K × Value)} {value slice : PySem.Expr} {Q : Value → Shared → Prop} (F : Fr h₀ L s.heap m) (hD : h₀.DictOf knd d kv) (hr : Rep R kv l) (hkey : knd.is k key = true) (hl : aget l k = some x)
    (h : ∀ v, R x v → Q v { s with toks := s.toks + 1 })
    (hs : subscripted slice false (.ref d) key = operate [.ref d, key] (getItem (.ref d) key) := by with_unfolding_all rfl) (hg : ∀ r, letTemporaryGo value (.ref d) r = pure () := by intro _; with_unfolding_all rfl) :
    wpAny (model prog w) A (subscriptTail value slice (.ref d) key) Q E s := by
  obtain ⟨v, hv, hx⟩ := hr.some hl
  have hD' : s.heap.DictOf knd d kv := hD.keep F.keep
  exact subscriptTail_builtin hD'.typeIs slot_dict_getitem.lookup (wpAny_getItem_of hkey hD'.mapOf hv (h v hx)) hs hg
def encRow (h : Heap) (ys : List Str) (v : Value) : Prop := ∃ a vs, v = .ref a ∧ h.IsList a (List.toArray vs) ∧ StrsAre vs ys
theorem dh_itemR {kv : List (K × Value)} {l : List (K × List Str)} {x : List Str} {value slice : PySem.Expr} {Q : Value → Shared → Prop} (F : Fr h₀ L s.heap m) (hD : h₀.DictOf knd d kv) (hr : Rep (encRow h₀) kv l) (hkey : knd.is k key = true) (hl : aget l k = some x)
    (h : ∀ a vs, h₀.IsList a (List.toArray vs) → StrsAre vs x → Q (.ref a) { s with toks := s.toks + 1 })
    (hs : subscripted slice false (.ref d) key = operate [.ref d, key] (getItem (.ref d) key) := by with_unfolding_all rfl) (hg : ∀ r, letTemporaryGo value (.ref d) r = pure () := by intro _; with_unfolding_all rfl) :
    wpAny (model prog w) A (subscriptTail value slice (.ref d) key) Q E s := dh_item F hD hr hkey hl (fun v ⟨a, vs, e, x, y⟩ => e ▸ h a vs x y) hs hg
end dict

/-! a list of the ledger -/
section queue
variable {prog : Program} {w : World} {A : Around} {E : Value → Shared → Prop} {s : Shared} {h₀ : Heap} {L D : Addr} {m : Str → Option Value} {news news' : List (Addr × Obj)} {vs : List Value} {n : Nat}
theorem q_len {Q : Value → Shared → Prop} (N : News h₀ L s.heap news) (hm : (D, listOf vs.toArray n) ∈ news) (hz : vs.length ≤ 1000) (h : ∀ t, Q (.int (vs.length : Int) t) { s with toks := s.toks + 1 + 1 }) :
    wpAny (model prog w) A (call (.builtin "len") [.ref D]) Q E s := by
  have hl : s.heap.IsList D vs.toArray := ⟨_, (N _ hm).1, rfl, n, rfl⟩
  refine len_list hl (by rw [List.size_toArray]; omega) ?_
  rw [List.size_toArray]
  exact h _
theorem q_append {x : Value} {Q : Value → Shared → Prop} (F : Fr h₀ L s.heap m) (N : News h₀ L s.heap news) (U : Upd D (listOf vs.toArray n) (listOf (vs ++ [x]).toArray (n + 1)) news news') (hz : vs.length ≤ 1000)
    (h : ∀ h', Fr h₀ L h' m → News h₀ L h' news' → Q .none { s with heap := h' }) : wpAny (model prog w) A (call (.builtin "list.append") [.ref D, x]) Q E s := by
  have e : (vs ++ [x]).toArray = vs.toArray.push x := by simp
  rw [e] at U
  exact append_K F N U h (by rw [List.size_toArray, sizeLine_eq]; omega)
theorem q_popM {pl : Sem Bool} {Q : Value × List Value → Shared → Prop} (N : News h₀ L s.heap news) (hm : (D, listOf vs.toArray n) ∈ news) (h : Q (.builtin "list.pop", [.ref D]) s) : wpAny (model prog w) A (getMethod (.ref D) "pop" pl) Q E s :=
  kl_method N hm PySem.F.slot_list_pop PySem.F.type_list_pop h
theorem q_appendM {pl : Sem Bool} {Q : Value × List Value → Shared → Prop} (N : News h₀ L s.heap news) (hm : (D, listOf vs.toArray n) ∈ news) (h : Q (.builtin "list.append", [.ref D]) s) : wpAny (model prog w) A (getMethod (.ref D) "append" pl) Q E s :=
  kl_method N hm PySem.F.slot_list_append PySem.F.type_list_append h
theorem q_pop0 {u : Tok} {y : Value} {Q : Value → Shared → Prop} (F : Fr h₀ L s.heap m) (N : News h₀ L s.heap news) (U : Upd D (listOf (y :: vs).toArray n) (listOf vs.toArray (n + 1)) news news') (hz : vs.length ≤ 1000)
    (h : ∀ h', Fr h₀ L h' m → News h₀ L h' news' → Q y { s with heap := h' }) : wpAny (model prog w) A (call (.builtin "list.pop") [.ref D, .int 0 u]) Q E s :=
  kl_popAt (k := 0) (p := []) (q := vs) F N rfl (by unfold seqIndex?; simp) rfl U (by rw [sizeLine_eq]; simp; omega) h
end queue

theorem ints_item : ∀ {vs : List Value} {ns : List Int}, IntsAre vs ns → ∀ (i : Nat) (v : Value), vs[i]? = some v → ∃ y t, v = .int y t ∧ ns[i]? = some y := by
  intro vs ns h
  induction h with
  | nil => intro i v hv; simp at hv
  | cons n t _ ih =>
    intro i v hv
    cases i with
    | zero => simp at hv; subst hv; exact ⟨n, t, rfl, rfl⟩
    | succ i => simpa using ih i v (by simpa using hv)
theorem ints_snoc {vs : List Value} {ns : List Int} (h : IntsAre vs ns) (n : Int) (t : Tok) : IntsAre (vs ++ [.int n t]) (ns ++ [n]) := by
  induction h with
  | nil => exact .cons n t .nil
  | cons k u _ ih => exact .cons k u ih

/-! a def entered: all but the handed objects stands in the callee's base -/
def LeaveZ (h g : Heap) (adr : List Addr) (R : Result → Shared → Prop) (v : Value) (s' : Shared) : Prop :=
  ∃ L' m', Fr g L' s'.heap m' ∧ ((∀ b o, h.get? b = some o → b ∉ adr → s'.heap.get? b = some o) → R (.ok (.ret v)) s')

section call
variable {prog : Program} {w : World} {A₀ A : Around} {s : Shared} {base h₀ : Heap} {outer : List Env} {L : Addr} {m : Str → Option Value} {env : Env} {news : List (Addr × Obj)} {K : Frag}
  {R : Result → Shared → Prop} {name qual : Str} {params : Arguments} {body : List Stmt} {scope : Scope} {dV kV doc pm cdv ct oc : Value} {an od : Option Addr} {osl : Array (Option Value)} {f : Addr} {args : Args} {binds : List (Str × Value)}
  {p : Program} {loose : List Str} {mean : ExcName → Option Value} {mg mb : Str → Option Value}

theorem code_Z (B : Below A₀ base outer h₀) (F : Fr h₀ L s.heap m) (X₀ : K.In h₀) (N : News h₀ L s.heap news) (T : Top p loose mean mg mb h₀) (hA : A.frames = some (env :: outer)) (hf : env.frame = some L) (hke : env.scope.kind = .function)
    (ho : K.lookup f = some ⟨oc, od, .func (fnOf name qual params body scope dV kV doc pm an cdv ct), osl⟩) (hcd : codeIn K cdv qual = true) (hroom : A.depth < recursionLimit)
    (hbind : BindsTo s (fnOf name qual params body scope dV kV doc pm an cdv ct) args binds) (hloc : ∀ y ∈ binds, scope.names.lookup y.1 = some .local)
    (hcell : ∀ x ∈ scope.names, x.2 ≠ .cell) (hco : scope.isCoroutine = false) (hgen : scope.isGenerator = false) (hk : scope.kind = .function)
    (h : ∀ g L' h₁, Fr g L' h₁ (fun y => binds.reverse.lookup y) → News g L' h₁ news → Below A base (env :: outer) g → K.In g → Top p loose mean mg mb g → (∀ b o, s.heap.get? b = some o → b ∉ news.map (·.1) → g.get? b = some o) →
      (∀ p ∈ news, p.1 < L') →
      wpAny (model prog w) (A.deeper (envOf qual scope L' f cdv)) (execs body (envOf qual scope L' f cdv))
        (fun fl s' => LeaveZ s.heap g (news.map (·.1)) R (match fl with | .ret v => v | _ => .none) s')
        (fun e s' => wpAny (model prog w) (A.deeper (envOf qual scope L' f cdv)) (leaving (envOf qual scope L' f cdv) e) (fun _ s'' => R (.error e) s'') (fun e' s'' => R (.error e') s'') s')
        { s with heap := h₁, toks := s.toks + binds.length }) : codeAny (model prog w) A (.call (.ref f) args) R s := by
  obtain ⟨FG, BG, st, -⟩ := groundX (R := R) B F N hA hf hke
  have keep : ∀ b o, s.heap.get? b = some o → b ∉ news.map (·.1) → (hideAll s.heap (news.map (·.1))).get? b = some o := fun b o e hn => hideAll_get _ e hn
  refine codeAny_call_def (fd := fnX name qual params body scope [] dV kV doc pm an cdv ct) (body := body) (binds := binds) hroom ((X₀.keeps F.keep) _ _ ho) rfl (T.nolimit.keeps F.keep) (codeRec_of (X₀.keeps F.keep) hcd) rfl hbind hcell hloc (fun h₁ hns hk₁ => ?_) hco hgen hk
  refine wpAny_mono (h _ s.heap.objs.size h₁ ⟨hns, fun b o e => hk₁ b o (of_hideAll _ e), Nat.le_of_eq (hideAll_size _ _)⟩
    (fun p hp => ⟨hk₁ _ _ (N p hp).1, Nat.ne_of_lt (Heap.lt_size (N p hp).1), hideAll_none _ (List.mem_map_of_mem hp)⟩) BG (X₀.keeps st) (T.keeps st) keep (fun p hp => Heap.lt_size (N p hp).1)) (fun fl s' hl => ?_) fun _ _ y => y
  obtain ⟨L', m', F', k⟩ := hl
  exact k fun b o e hn => F'.keep b o (keep b o e hn)
end call

theorem fr_frame {h₀ h h' : Heap} {L : Addr} {m : Str → Option Value} {adr : List Addr} (F : Fr h₀ L h m) (k : ∀ b o, h.get? b = some o → b ∉ adr → h'.get? b = some o) (hL : L ∉ adr) (h0 : ∀ b ∈ adr, h₀.get? b = none) : Fr h₀ L h' m := by
  obtain ⟨oL, es, ep, e, r⟩ := F.ns
  refine ⟨⟨oL, es, ep, k _ _ e hL, r⟩, fun b o q => k b o (F.keep b o q) fun hb => ?_, F.above⟩
  rw [h0 b hb] at q; cases q
theorem news_frame {h₀ h h' : Heap} {L : Addr} {adr : List Addr} {news : List (Addr × Obj)} (N : News h₀ L h news) (k : ∀ b o, h.get? b = some o → b ∉ adr → h'.get? b = some o) (hn : ∀ p ∈ news, p.1 ∉ adr) : News h₀ L h' news :=
  fun p hp => ⟨k _ _ (N p hp).1 (hn p hp), (N p hp).2⟩

/-! a loop over a list of the base, any items, the ledger told by a letter -/
section loop
variable {prog : Program} {w : World} {A : Around} {E : Value → Shared → Prop} {s : Shared} {env : Env} {h₀ : Heap} {x : Str} {body : List Stmt} {Q : Flow → Shared → Prop}

def EndZ {σ : Type} (h₀ : Heap) (L : Addr) (Led : σ → List (Addr × Obj)) (ps : σ → List (Str × Value)) (x : Str) (stored : List Str) (m₀ : Str → Option Value) (P : σ → Prop) (it : Addr × Obj) (s₁ : Shared) (Q : Flow → Shared → Prop) (f : Flow) (s₂ : Shared) : Prop :=
  match f with
  | .ret v => Q (.ret v) s₂
  | .brk => Q .next s₂
  | _ => ∃ c h' tk m', s₂ = { s₁ with heap := h', toks := tk } ∧ Fr h₀ L h' m' ∧ News h₀ L h' (Led c ++ [it]) ∧ (∀ p ∈ ps c, m' p.1 = some p.2) ∧ (∀ z, z ≠ x → (∀ p ∈ ps c, z ≠ p.1) → stored.contains z = false → m' z = m₀ z) ∧ P c

theorem iter_Z {σ : Type} {L l : Addr} (hLe : env.locals = L) {vs : List Value} {m₀ : Str → Option Value} (Led : σ → List (Addr × Obj)) (ps : σ → List (Str × Value)) (stored : List Str) (c₀ : σ) (P : Nat → σ → Prop)
    (hh : A.handled = none) (hl : h₀.IsList l vs.toArray) (F : Fr h₀ L s.heap m₀) (N : News h₀ L s.heap (Led c₀)) (hk : ∀ p ∈ ps c₀, m₀ p.1 = some p.2) (hp : P 0 c₀) (hadr : ∀ c, (Led c).map (·.1) = (Led c₀).map (·.1))
    (turn : ∀ (c : σ) i v (u : Str → Option Value) h tk I oI, vs[i]? = some v → (∀ p ∈ Led c, p.1 ≠ I) → P i c → Fr h₀ L h (fun y => if y = x then some v else kstB (fun z => if stored.contains z then u z else m₀ z) (ps c) y) →
      News h₀ L h (Led c ++ [(I, oI)]) → wpAny (model prog w) A (execs body env) (EndZ h₀ L Led ps x stored m₀ (P (i + 1)) (I, oI) { s with heap := h, toks := tk } Q) E { s with heap := h, toks := tk })
    (done : ∀ (c : σ) (u : Str → Option Value) h tk, P vs.length c → Fr h₀ L h (fun y => if y = x then u y else kstB (fun z => if stored.contains z then u z else m₀ z) (ps c) y) → News h₀ L h (Led c) → Q .next { s with heap := h, toks := tk }) :
    wpAny (model prog w) A (pyIter (.ref l)) (fun it s₂ => LoopAtV prog w A h₀ env x body Q E it s₂) E s := by
  subst hLe
  have hls : s.heap.IsList l vs.toArray := hl.at fun o e => F.keep l o e
  obtain ⟨ol, hol, _⟩ := id hl
  have hlt : l < h₀.objs.size := Heap.lt_size hol
  have hne : l ≠ s.heap.objs.size := Nat.ne_of_lt (Nat.lt_trans (Nat.lt_of_lt_of_le hlt F.above) F.ns.lt)
  refine wpAny_pyIter_list hls ?_
  have W := Walks.list (prog := prog) (w := w) hh s.heap.objs.size l hne vs.toArray
  have hlen : vs.toArray.size = vs.length := by simp
  rw [hlen] at W
  let J' : Nat → (Str → Option Value) → List (Addr × Obj) → Prop := fun i m₁ news₁ => ∃ c, news₁ = Led c ∧ (∀ p ∈ ps c, m₁ p.1 = some p.2) ∧ (∀ z, z ≠ x → (∀ p ∈ ps c, z ≠ p.1) → stored.contains z = false → m₁ z = m₀ z) ∧ P i c
  refine ⟨_, _, _, vs.length, _, _, m₀, Led c₀, J', rfl, W, ?_, ?_, ?_, ⟨⟨_, Heap.get?_push_size _ rfl, rfl, rfl⟩, hls.at fun o e => Heap.get?_push_of_some _ e⟩, F.push _, (fun p hp => ⟨Heap.get?_push_of_some _ (N p hp).1, (N p hp).2⟩),
    ⟨c₀, rfl, hk, fun _ _ _ _ => rfl, hp⟩, ?_, ?_⟩
  · intro hm
    rcases List.mem_cons.mp hm with e | hm
    · exact absurd F.ns.lt (e ▸ Nat.lt_irrefl _)
    · exact absurd (Nat.lt_of_lt_of_le hlt F.above) ((List.mem_singleton.mp hm) ▸ Nat.lt_irrefl _)
  · intro b hb
    rw [List.mem_singleton.mp hb]
    exact next_is_new F
  · intro p hp hI
    exact absurd (Heap.lt_size (N p hp).1) ((List.mem_singleton.mp hI) ▸ Nat.lt_irrefl _)
  · rintro i v m₁ news₁ s₁ own ⟨hh', tk', rfl⟩ hin hP ⟨c, rfl, hk', hr', hJ⟩ hoff hown howng hall hst F₁ N₁
    obtain ⟨oI, hoI, _⟩ := hst.1
    have hI0 : h₀.get? s.heap.objs.size = none := next_is_new F
    have hmI := hall _ (List.mem_cons_self) hI0 oI hoI
    have hv : vs[i]? = some v := by simpa using hP
    have N₂ : News h₀ env.locals hh' (Led c ++ [(s.heap.objs.size, oI)]) := fun p hp => by
      rcases List.mem_append.mp hp with h | h
      · exact N₁ p (List.mem_append.mpr (.inr h))
      · rw [List.mem_singleton.mp h]; exact N₁ _ (List.mem_append.mpr (.inl hmI))
    refine wpAny_mono (turn c i v m₁ hh' tk' s.heap.objs.size oI hv (fun p hp e => hoff p hp (by rw [e]; exact List.mem_cons_self)) hJ (kst_fr hk' hr' F₁) N₂) (fun f s₂ p => ?_) fun _ _ e => e
    have fin : (∃ c h' tk m', s₂ = { s with heap := h', toks := tk } ∧ Fr h₀ env.locals h' m' ∧ News h₀ env.locals h' (Led c ++ [(s.heap.objs.size, oI)]) ∧ (∀ p ∈ ps c, m' p.1 = some p.2) ∧ (∀ z, z ≠ x → (∀ p ∈ ps c, z ≠ p.1) → stored.contains z = false → m' z = m₀ z) ∧ P (i + 1) c) →
        LoopStepU h₀ env.locals [s.heap.objs.size] own (J' (i + 1)) { s with heap := hh', toks := tk' } .next s₂ := by
      rintro ⟨c', h', tk, m', e, F', N', a, b, d⟩
      refine ⟨rfl, h', tk, m', Led c', e, F', fun p hp => ?_, fun p hp hq => ?_, c', rfl, a, b, d⟩
      · rcases List.mem_append.mp hp with h | h
        · have h1 := (N₁ p (List.mem_append.mpr (.inl h)))
          have h2 : p.1 = s.heap.objs.size := by
            rcases List.mem_cons.mp (hown p h) with q | q
            · exact q
            · have q := List.mem_singleton.mp q
              have h3 := h1.2.2
              rw [q, hol] at h3; cases h3
          have h4 := howng p h
          rw [h2] at h4
          have h5 : p = (s.heap.objs.size, oI) := by
            obtain ⟨p1, p2⟩ := p
            dsimp only at h2 h4
            subst h2
            have h4' : hh'.get? s.heap.objs.size = some p2 := h4
            rw [hoI] at h4'
            cases h4'; rfl
          rw [h5]; exact N' _ (List.mem_append.mpr (.inr (List.mem_singleton.mpr rfl)))
        · exact N' p (List.mem_append.mpr (.inl h))
      · have h1 : p.1 ∈ (Led c').map (·.1) := List.mem_map.mpr ⟨p, hp, rfl⟩
        rw [hadr c', ← hadr c] at h1
        obtain ⟨q, hq1, hq2⟩ := List.mem_map.mp h1
        exact hoff q hq1 (by rw [hq2]; exact hq)
    cases f with
    | ret v => exact .ret p
    | brk => exact .brk p
    | next => exact .next (fin p)
    | cont => exact .cont (fin p)
  · rintro h' tk m' news' F' N' _ ⟨c, rfl, hk', hr', hJ⟩
    exact done c m' h' tk hJ (kst_frOut hk' hr' F') N'
end loop
end HKP
end SHKRules

section SHKMeth
local macro_rules | `(tactic| walk_at "no such key") => `(tactic| skip)
local macro_rules | `(tactic| walk_at "no such key") => `(tactic| skip)
local macro_rules | `(tactic| walk_at "no such key") => `(tactic| skip)
set_option maxRecDepth 100000
namespace HKP
open PySem PySem.W PyProof.Rows PySem.Spec PySem.Calls

structure Ids where
  self : Addr
  D : Addr
  gr : Addr
  pl : Addr
  pr : Addr
  lf : Addr
  dl : Addr
  e1 : Int
  e2 : Int
  e3 : Int
  e4 : Int
  e5 : Int
  e6 : Int
  j1 : Tok
  j2 : Tok
  j3 : Tok
  j4 : Tok
  j5 : Tok
  j6 : Tok
abbrev Ids.adr (i : Ids) : List Addr := [i.self, i.D, i.pl, i.pr, i.dl]
abbrev dObj (i : Ids) (rd : Int) (t : Tok) : Obj :=
  dictOf [⟨i.e1, .str "_graph_left" i.j1, .ref i.gr⟩, ⟨i.e2, .str "_reference_distance" i.j2, .int rd t⟩, ⟨i.e3, .str "_pair_left" i.j3, .ref i.pl⟩, ⟨i.e4, .str "_pair_right" i.j4, .ref i.pr⟩, ⟨i.e5, .str "_left" i.j5, .ref i.lf⟩, ⟨i.e6, .str "_dist_left" i.j6, .ref i.dl⟩] 6
abbrev led (i : Ids) (rd : Int) (t : Tok) (o1 o2 o3 : Obj) : List (Addr × Obj) := [(i.self, instObj 73 i.D), (i.D, dObj i rd t), (i.pl, o1), (i.pr, o2), (i.dl, o3)]

def rights (g : List (Int × List Str)) : List Str := g.flatMap (·.2)
structure Keyed (g : List (Int × List Str)) (S : HS Str) : Prop where
  pl : ∀ x ∈ S.pl.map (·.1), x ∈ g.map (·.1)
  pr : ∀ x ∈ S.pr.map (·.1), x ∈ rights g
  dl : ∀ x ∈ S.dl.map (·.1), x ∈ g.map (·.1)

/-- the addresses stand apart -/
structure Apart (i : Ids) : Prop where
  n1 : @Ne Nat i.self i.D
  n2 : @Ne Nat i.self i.pl
  n3 : @Ne Nat i.self i.pr
  n4 : @Ne Nat i.self i.dl
  n5 : @Ne Nat i.D i.pl
  n6 : @Ne Nat i.D i.pr
  n7 : @Ne Nat i.D i.dl
  n8 : @Ne Nat i.pl i.pr
  n9 : @Ne Nat i.pl i.dl
  n10 : @Ne Nat i.pr i.dl
  g : i.gr ∉ i.adr
  l : i.lf ∉ i.adr
  mpl : (i.pl == sysModules) = false
  mpr : (i.pr == sysModules) = false
  mdl : (i.dl == sysModules) = false
  mgr : (i.gr == sysModules) = false

def Holds3 (w : World) (o1 o2 o3 : Obj) (S : HS Str) : Prop :=
  DR (PySem.intKind PySem.Challenge.rw_iy0015_01.row.prog w) encS o1 S.pl ∧ DR (PySem.strKind PySem.Challenge.rw_iy0015_01.row.prog w) encI o2 S.pr ∧ DR (PySem.intKind PySem.Challenge.rw_iy0015_01.row.prog w) encI o3 S.dl

def FinAt (w : World) (h : Heap) (i : Ids) (g : List (Int × List Str)) (S : HS Str) : Prop :=
  ∃ t o1 o2 o3, (∀ p ∈ led i S.rd t o1 o2 o3, h.get? p.1 = some p.2) ∧ Holds3 w o1 o2 o3 S ∧ Keyed g S

structure GrAt (w : World) (h : Heap) (i : Ids) (g : List (Int × List Str)) : Prop where
  gr : ∃ kv, h.DictOf (PySem.intKind PySem.Challenge.rw_iy0015_01.row.prog w) i.gr kv ∧ Rep (encRow h) kv g
  lf : ∃ vs, h.IsList i.lf (List.toArray vs) ∧ IntsAre vs (g.map (·.1))
  sz : g.length ≤ 100 ∧ (rights g).length ≤ 1000

theorem Rep.memR {K δ : Type} [DecidableEq K] {R R' : δ → Value → Prop} {kv : List (K × Value)} {l : List (K × δ)} (h : Rep R kv l) (hm : ∀ p ∈ l, ∀ v, R p.2 v → R' p.2 v) : Rep R' kv l := by
  induction h with
  | nil => exact .nil
  | @cons k v d a b hr _ ih => exact .cons (hm (k, d) (List.mem_cons_self) v hr) (ih fun p hp => hm p (List.mem_cons_of_mem _ hp))

theorem GrAt.keep {w : World} {h h' : Heap} {i : Ids} {g : List (Int × List Str)} {S : HS Str} (G : GrAt w h i g) (hF : FinAt w h i g S) (ap : Apart i) (k : ∀ b o, h.get? b = some o → b ∉ i.adr → h'.get? b = some o) : GrAt w h' i g := by
  obtain ⟨t, o1, o2, o3, hl, ⟨⟨k1, d1, _⟩, ⟨k2, d2, _⟩, ⟨k3, d3, _⟩⟩, _⟩ := hF
  have notlist : ∀ b vs, h.IsList b vs → b ∉ i.adr := by
    rintro b vs ⟨o, ho, hc, n, hdt⟩ hm
    have c1 : o1.cls = .type "dict" := by obtain ⟨_, _, hx, _⟩ := d1; exact hx.1
    have c2 : o2.cls = .type "dict" := by obtain ⟨_, _, hx, _⟩ := d2; exact hx.1
    have c3 : o3.cls = .type "dict" := by obtain ⟨_, _, hx, _⟩ := d3; exact hx.1
    simp only [Ids.adr, List.mem_cons, List.not_mem_nil, or_false] at hm
    have l1 := hl _ (List.Mem.head _)
    have l2 := hl _ (List.Mem.tail _ (List.Mem.head _))
    have l3 := hl _ (List.Mem.tail _ (List.Mem.tail _ (List.Mem.head _)))
    have l4 := hl _ (List.Mem.tail _ (List.Mem.tail _ (List.Mem.tail _ (List.Mem.head _))))
    have l5 := hl _ (List.Mem.tail _ (List.Mem.tail _ (List.Mem.tail _ (List.Mem.tail _ (List.Mem.head _)))))
    dsimp only at l1 l2 l3 l4 l5
    rcases hm with rfl | rfl | rfl | rfl | rfl
    · rw [l1] at ho; cases ho; cases hc
    · rw [l2] at ho; cases ho; simp at hc
    · rw [l3] at ho; cases ho; rw [c1] at hc; simp at hc
    · rw [l4] at ho; cases ho; rw [c2] at hc; simp at hc
    · rw [l5] at ho; cases ho; rw [c3] at hc; simp at hc
  have kl : ∀ b vs, h.IsList b vs → h'.IsList b vs := fun b vs hb => by
    have := notlist b vs hb
    obtain ⟨o, ho, r⟩ := hb
    exact ⟨o, k _ _ ho this, r⟩
  refine ⟨?_, ?_, G.sz⟩
  · obtain ⟨kv, ⟨o, es, ep, ho, r⟩, hr⟩ := G.gr
    refine ⟨kv, ⟨o, es, ep, k _ _ ho ap.g, r⟩, hr.mono fun d v ⟨a, vs, e, x, y⟩ => ⟨a, vs, e, kl _ _ x, y⟩⟩
  · obtain ⟨vs, x, y⟩ := G.lf
    exact ⟨vs, kl _ _ x, y⟩
theorem GrAt.stays {w : World} {h h' : Heap} {i : Ids} {g : List (Int × List Str)} (G : GrAt w h i g) (k : ∀ b o, h.get? b = some o → h'.get? b = some o) : GrAt w h' i g := by
  have kl : ∀ b vs, h.IsList b vs → h'.IsList b vs := fun b vs ⟨o, ho, r⟩ => ⟨o, k _ _ ho, r⟩
  refine ⟨?_, ?_, G.sz⟩
  · obtain ⟨kv, ⟨o, es, ep, ho, r⟩, hr⟩ := G.gr
    exact ⟨kv, ⟨o, es, ep, k _ _ ho, r⟩, hr.mono fun d v ⟨a, vs, e, x, y⟩ => ⟨a, vs, e, kl _ _ x, y⟩⟩
  · obtain ⟨vs, x, y⟩ := G.lf
    exact ⟨vs, kl _ _ x, y⟩

/-- what a method's call does: for every end -/
def Meth (w : World) (A : Around) (s : Shared) (i : Ids) (g : List (Int × List Str)) (f : Addr) (args : List Value) (Post : Value → HS Str → Prop) : Prop :=
  ∀ R : Result → Shared → Prop, (∀ v S' h' tk, Post v S' → FinAt w h' i g S' → (∀ b o, s.heap.get? b = some o → b ∉ i.adr → h'.get? b = some o) → R (.ok (.ret v)) { s with heap := h', toks := tk }) →
    codeAny (model PySem.Challenge.rw_iy0015_01.row.prog w) A (.call (.ref f) ⟨args, []⟩) R s

theorem meth_use {w : World} {A : Around} {s : Shared} {i : Ids} {g : List (Int × List Str)} {f : Addr} {args : List Value} {Post : Value → HS Str → Prop} {Q E : Value → Shared → Prop}
    {h₀ : Heap} {L : Addr} {m : Str → Option Value} {ext news : List (Addr × Obj)} {rd : Int} {t : Tok} {o1 o2 o3 : Obj}
    (F : Fr h₀ L s.heap m) (N : News h₀ L s.heap news) (hn : news = led i rd t o1 o2 o3 ++ ext) (hext : ∀ p ∈ ext, p.1 ∉ i.adr) (M : Fr h₀ L s.heap m → News h₀ L s.heap (led i rd t o1 o2 o3) → Meth w A s i g f args Post)
    (ret : ∀ v S' t' o1' o2' o3' h' tk, Post v S' → Holds3 w o1' o2' o3' S' → Keyed g S' → Fr h₀ L h' m → News h₀ L h' (led i S'.rd t' o1' o2' o3' ++ ext) → Q v { s with heap := h', toks := tk }) :
    wpAny (model PySem.Challenge.rw_iy0015_01.row.prog w) A (call (.ref f) args) Q E s := by
  subst hn
  refine wpAny_call (M F (fun p hp => N p (List.mem_append_left _ hp)) _ ?_)
  rintro v S' h' tk hp ⟨t', o1', o2', o3', hl, h3, hk⟩ fr
  have hadr : ∀ b ∈ i.adr, b ≠ L ∧ h₀.get? b = none := by
    intro b hb
    have : ∃ o, (b, o) ∈ led i rd t o1 o2 o3 := by
      simp only [Ids.adr, List.mem_cons, List.not_mem_nil, or_false] at hb
      rcases hb with rfl | rfl | rfl | rfl | rfl
      · exact ⟨_, List.Mem.head _⟩
      · exact ⟨_, List.Mem.tail _ (List.Mem.head _)⟩
      · exact ⟨_, List.Mem.tail _ (List.Mem.tail _ (List.Mem.head _))⟩
      · exact ⟨_, List.Mem.tail _ (List.Mem.tail _ (List.Mem.tail _ (List.Mem.head _)))⟩
      · exact ⟨_, List.Mem.tail _ (List.Mem.tail _ (List.Mem.tail _ (List.Mem.tail _ (List.Mem.head _))))⟩
    obtain ⟨o, ho⟩ := this
    exact (N _ (List.mem_append_left _ ho)).2
  have F' := fr_frame F fr (fun hL => (hadr L hL).1 rfl) fun b hb => (hadr b hb).2
  refine ret v S' t' o1' o2' o3' h' tk hp h3 hk F' fun p hp => ?_
  rcases List.mem_append.mp hp with h | h
  · refine ⟨hl p h, hadr p.1 ?_⟩
    have : p.1 ∈ (led i S'.rd t' o1' o2' o3').map (·.1) := List.mem_map.mpr ⟨p, h, rfl⟩
    exact this
  · have := N p (List.mem_append_right _ h)
    exact ⟨fr _ _ this.1 (hext p h), this.2⟩
end HKP
namespace HKP
open PySem PySem.W PyProof.Rows PySem.Spec PySem.Calls
def Held (p : Prop) : Prop := p
theorem held_of {p : Prop} (h : Held p) : p := h

theorem Keyed.pl_len {g : List (Int × List Str)} {S : HS Str} (K : Keyed g S) (hn : (S.pl.map (·.1)).Nodup) (h : g.length ≤ 100) : S.pl.length ≤ 1000 := by
  have := nodup_le hn K.pl
  simp only [List.length_map] at this
  omega
theorem Keyed.pr_len {g : List (Int × List Str)} {S : HS Str} (K : Keyed g S) (hn : (S.pr.map (·.1)).Nodup) (h : (rights g).length ≤ 1000) : S.pr.length ≤ 1000 := by
  have := nodup_le hn K.pr
  simp only [List.length_map] at this
  omega
theorem Keyed.dl_len {g : List (Int × List Str)} {S : HS Str} (K : Keyed g S) (hn : (S.dl.map (·.1)).Nodup) (h : g.length ≤ 100) : S.dl.length ≤ 1000 := by
  have := nodup_le hn K.dl
  simp only [List.length_map] at this
  omega
theorem keys_aput {K V : Type} [DecidableEq K] {l : List (K × V)} {k : K} {v : V} {P : K → Prop} (h : ∀ x ∈ l.map (·.1), P x) (hk : P k) : ∀ x ∈ (aput l k v).map (·.1), P x := by
  intro x hx
  rw [aput_keys] at hx
  split at hx
  · exact h x hx
  · rcases List.mem_append.mp hx with hx | hx
    · exact h x hx
    · obtain rfl := List.mem_singleton.mp hx; exact hk
theorem Keyed.swap {g : List (Int × List Str)} {S : HS Str} (K : Keyed g S) {l : Int} {r : Str} (hl : l ∈ g.map (·.1)) (hr : r ∈ rights g) : Keyed g (HKP.swap S l r) :=
  ⟨keys_aput K.pl hl, keys_aput K.pr hr, K.dl⟩


theorem leaveZ_fin {w : World} {s : Shared} {i : Ids} {g : List (Int × List Str)} {Post : Value → HS Str → Prop} {R : Result → Shared → Prop} {g' h' : Heap} {L' : Addr} {m' : Str → Option Value} {ext : List (Addr × Obj)} {v : Value} {tk : Nat}
    {t' : Tok} {o1' o2' o3' : Obj} (S' : HS Str) (ret : ∀ v S' h' tk, Post v S' → FinAt w h' i g S' → (∀ b o, s.heap.get? b = some o → b ∉ i.adr → h'.get? b = some o) → R (.ok (.ret v)) { s with heap := h', toks := tk })
    (F : Fr g' L' h' m') (N : News g' L' h' (led i S'.rd t' o1' o2' o3' ++ ext)) (H3 : Holds3 w o1' o2' o3' S') (ky : Keyed g S') (hp : Post v S') : LeaveZ s.heap g' i.adr R v { s with heap := h', toks := tk } :=
  ⟨_, _, F, fun fr => ret v S' h' tk hp ⟨t', o1', o2', o3', fun p hp => (N p (List.mem_append_left _ hp)).1, H3, ky⟩ fr⟩
theorem fresh_adr {i : Ids} {rd : Int} {t : Tok} {o1 o2 o3 oI : Obj} {I : Addr} (h : ∀ p ∈ led i rd t o1 o2 o3, p.1 ≠ I) : ∀ p ∈ [(I, oI)], p.1 ∉ i.adr := by
  intro p hp
  obtain rfl := List.mem_singleton.mp hp
  intro hm
  have hm' : I ∈ (led i rd t o1 o2 o3).map (·.1) := hm
  obtain ⟨q, hq, e⟩ := List.mem_map.mp hm'
  exact h q hq e
structure Cs where
  S : HS Str
  t : Tok
  o1 : Obj
  o2 : Obj
  o3 : Obj
abbrev Cs.led (i : Ids) (c : Cs) : List (Addr × Obj) := HKP.led i c.S.rd c.t c.o1 c.o2 c.o3

theorem drop_cons {α : Type} {l : List α} {k : Nat} {x : α} (h : l[k]? = some x) : l.drop k = x :: l.drop (k + 1) := by
  rw [List.getElem?_eq_some_iff] at h
  obtain ⟨hk, rfl⟩ := h
  rw [List.drop_eq_getElem_cons hk]

theorem fresh5 {I a1 a2 a3 a4 a5 : Addr} {b1 b2 b3 b4 b5 : Obj} (h : ∀ p ∈ [(a1, b1), (a2, b2), (a3, b3), (a4, b4), (a5, b5)], p.1 ≠ I) : @Ne Nat a1 I ∧ @Ne Nat a2 I ∧ @Ne Nat a3 I ∧ @Ne Nat a4 I ∧ @Ne Nat a5 I := by
  simp only [List.forall_mem_cons] at h
  exact ⟨h.1, h.2.1, h.2.2.1, h.2.2.2.1, h.2.2.2.2.1⟩
theorem fresh6 {I a0 a1 a2 a3 a4 a5 : Addr} {b0 b1 b2 b3 b4 b5 : Obj} (h : ∀ p ∈ [(a0, b0), (a1, b1), (a2, b2), (a3, b3), (a4, b4), (a5, b5)], p.1 ≠ I) : @Ne Nat a0 I ∧ @Ne Nat a1 I ∧ @Ne Nat a2 I ∧ @Ne Nat a3 I ∧ @Ne Nat a4 I ∧ @Ne Nat a5 I := by
  simp only [List.forall_mem_cons] at h
  exact ⟨h.1, h.2.1, h.2.2.1, h.2.2.2.1, h.2.2.2.2.1, h.2.2.2.2.2.1⟩
theorem leaveZ_mem {w : World} {s : Shared} {i : Ids} {g : List (Int × List Str)} {Post : Value → HS Str → Prop} {R : Result → Shared → Prop} {g' h' : Heap} {L' : Addr} {m' : Str → Option Value} {news : List (Addr × Obj)} {v : Value} {tk : Nat}
    {t' : Tok} {o1' o2' o3' : Obj} (S' : HS Str) (ret : ∀ v S' h' tk, Post v S' → FinAt w h' i g S' → (∀ b o, s.heap.get? b = some o → b ∉ i.adr → h'.get? b = some o) → R (.ok (.ret v)) { s with heap := h', toks := tk })
    (F : Fr g' L' h' m') (N : News g' L' h' news) (hs : ∀ p ∈ led i S'.rd t' o1' o2' o3', p ∈ news) (H3 : Holds3 w o1' o2' o3' S') (ky : Keyed g S') (hp : Post v S') : LeaveZ s.heap g' i.adr R v { s with heap := h', toks := tk } :=
  leaveZ_fin (ext := []) S' ret F (fun p hp => N p (hs p (by simpa using hp))) H3 ky hp
theorem ne_stored {stored : List Str} {z y0 : Str} (h : stored.contains z = false) (hy : stored.contains y0 = true) : z ≠ y0 := by
  rintro rfl; rw [hy] at h; cases h
theorem same_base {stored : List Str} {u m₀ : Str → Option Value} {z : Str} (h : stored.contains z = false) : kstB (fun z => if stored.contains z then u z else m₀ z) [] z = m₀ z := by
  show (if stored.contains z = true then u z else m₀ z) = m₀ z
  rw [h]; rfl
theorem not_one {z y : Str} (h : z ≠ y) : ([y] : List Str).contains z = false := by
  simp [h]
end HKP
end SHKMeth

section SHKSwap
local macro_rules | `(tactic| walk_at "no such key") => `(tactic| skip)
set_option maxRecDepth 100000
namespace HKP
open PySem PySem.W PyProof.Rows PySem.Spec PySem.Calls
local macro_rules | `(tactic| walk_at "call ref") => `(tactic| (k_here; refine held_of ?_))
local macro_rules | `(tactic| walk_at "setItem ref int") => `(tactic| (k_here; k_dflt (refine' dr_set (knd := PySem.intKind _ _) ?F ?N ?U ?d (intKind_is _ _ _ _) ?v ?z ?_; (case F => k_asm); (case N => k_asm); (case U => k_updF); (case d => assumption); (case z => assumption); (case v => exact ⟨_, rfl⟩)); intro h' o' F' N' hd'; (try dsimp only at N')))
local macro_rules | `(tactic| walk_at "setItem ref str") => `(tactic| (k_here; k_dflt (refine' dr_set (knd := PySem.strKind _ _) ?F ?N ?U ?d (strKind_is _ _ _ _) ?v ?z ?_; (case F => k_asm); (case N => k_asm); (case U => k_updF); (case d => assumption); (case z => assumption); (case v => exact ⟨_, rfl⟩)); intro h' o' F' N' hd'; (try dsimp only at N')))

section meth
variable {w : World} {loose : List Str} {mean : ExcName → Option Value} {mg mb : Str → Option Value}
   {A A₀ : Around} {env : Env} {outer : List Env} {base h₀ : Heap} {L : Addr} {m : Str → Option Value} {s : Shared} {i : Ids} {g : List (Int × List Str)} {S : HS Str}

set_option maxHeartbeats 8000000 in
theorem swap_ok (hrow : PySem.Challenge.rw_iy0015_01 = PySem.Challenge.rw_iy0015_01) (B : Below A₀ base outer h₀) (F : Fr h₀ L s.heap m) (X : (hd.heap_39 w.params).In h₀) (T : Top hd.view_39 loose mean mg mb h₀)
    (hA : A.frames = some (env :: outer)) (hf : env.frame = some L) (hke : env.scope.kind = .function) (hh : A.handled = none) (hroom : A.depth + 1 < recursionLimit)
    {t : Tok} {o1 o2 o3 : Obj} (N : News h₀ L s.heap (led i S.rd t o1 o2 o3)) (H3 : Holds3 w o1 o2 o3 S) (ky : Keyed g S) (ap : Apart i) (G : GrAt w s.heap i g)
    {l : Int} {r : Str} (hl : l ∈ g.map (·.1)) (hr : r ∈ rights g) (t1 t2 : Tok) : Meth w A s i g 63 [.ref i.self, .int l t1, .str r t2] (fun v S' => v = .none ∧ S' = swap S l r) := by
  intro R ret
  obtain ⟨D1, D2, D3⟩ := H3
  have z1 := ky.pl_len D1.nodup G.sz.1
  have z2 := ky.pr_len D2.nodup G.sz.2
  have z3 := ky.dl_len D3.nodup G.sz.1
  revert X hrow
  w_top off
  k_fill
  intro hrow X
  obtain ⟨n1, n2, n3, n4, n5, n6, n7, n8, n9, n10, _, _, _, _, _, _⟩ := ap
  k_dflt (
    refine' code_Z (binds := [("self", .ref i.self), ("left", .int l t1), ("right", .str r t2)]) B F X N T hA hf hke ?k6 ?k7 ?k8 ?k9 ?kB ?c5 ?c2 ?c3 ?c4 ?_
    (case k6 => k_is); (case k7 => k_is); (case k8 => omega); (case k9 => exact BindsTo.of_eq rfl); (case c5 => decide); (case kB => exact locs rfl); (case c2 => exact rfl); (case c3 => exact rfl); (case c4 => exact rfl)
    intro g' L' h' F' N' B' X' T' kp' hlt'; (try dsimp only); (try k_fold))
  k_steps
  exact leaveZ_fin (swap S l r) ret (by assumption) (by assumption) ⟨by assumption, by assumption, by assumption⟩ (ky.swap hl hr) ⟨rfl, rfl⟩
end meth
end HKP
end SHKSwap

section SHKDfsW
set_option maxRecDepth 100000
namespace HKP
open PySem PySem.W PyProof.Rows PySem.Spec PySem.Calls

local macro_rules | `(tactic| walk_at "call ref") => `(tactic| (k_here; refine held_of ?_))
local macro_rules | `(tactic| walk_at "exec For") => `(tactic| (k_here; refine held_of ?_))
local macro_rules | `(tactic| walk_at "exec While") => `(tactic| (k_here; refine held_of ?_))
local macro_rules | `(tactic| walk_at "pyIter ref") => `(tactic| (k_here; refine held_of ?_))
local macro_rules | `(tactic| walk_at "setItem ref int") => `(tactic| (k_here; k_dflt (refine' dr_set (knd := PySem.intKind _ _) ?F ?N ?U ?d (intKind_is _ _ _ _) ?v ?z ?_; (case F => k_asm); (case N => k_asm); (case U => k_updF); (case d => assumption); (case z => assumption); (case v => exact ⟨_, rfl⟩)); intro h' o' F' N' hd'; (try dsimp only at N')))
local macro_rules | `(tactic| walk_at "setItem ref str") => `(tactic| (k_here; k_dflt (refine' dr_set (knd := PySem.strKind _ _) ?F ?N ?U ?d (strKind_is _ _ _ _) ?v ?z ?_; (case F => k_asm); (case N => k_asm); (case U => k_updF); (case d => assumption); (case z => assumption); (case v => exact ⟨_, rfl⟩)); intro h' o' F' N' hd'; (try dsimp only at N')))
local macro_rules | `(tactic| walk_at "compareOp NotIn str ref") => `(tactic| (k_here; k_dflt (first
  | (refine' dr_notin_t (knd := PySem.strKind _ _) ?N ?p ?d ?lo (strKind_is _ _ _ _) ?h ?_; (case N => k_asm); (case p => k_mem); (case d => assumption); (case lo => assumption); (case h => assumption))
  | (refine' dr_notin_f (knd := PySem.strKind _ _) ?N ?p ?d ?lo (strKind_is _ _ _ _) ?h ?_; (case N => k_asm); (case p => k_mem); (case d => assumption); (case lo => assumption); (case h => assumption)))))
local macro_rules | `(tactic| walk_at "compareOp NotIn int ref") => `(tactic| (k_here; k_dflt (first
  | (refine' dr_notin_t (knd := PySem.intKind _ _) ?N ?p ?d ?lo (intKind_is _ _ _ _) ?h ?_; (case N => k_asm); (case p => k_mem); (case d => assumption); (case lo => assumption); (case h => assumption))
  | (refine' dr_notin_f (knd := PySem.intKind _ _) ?N ?p ?d ?lo (intKind_is _ _ _ _) ?h ?_; (case N => k_asm); (case p => k_mem); (case d => assumption); (case lo => assumption); (case h => assumption)))))
local macro_rules | `(tactic| walk_at "compareOp In int ref") => `(tactic| (k_here; k_dflt (first
  | (refine' dr_in_t (knd := PySem.intKind _ _) ?N ?p ?d ?lo (intKind_is _ _ _ _) ?h ?_; (case N => k_asm); (case p => k_mem); (case d => assumption); (case lo => assumption); (case h => assumption))
  | (refine' dr_in_f (knd := PySem.intKind _ _) ?N ?p ?d ?lo (intKind_is _ _ _ _) ?h ?_; (case N => k_asm); (case p => k_mem); (case d => assumption); (case lo => assumption); (case h => assumption)))))
local macro_rules | `(tactic| walk_at "subscriptTail") => `(tactic| (k_here; (with_reducible show wpAny _ _ (subscriptTail _ _ (Value.ref _) (Value.str _ _)) _ _ _); k_dflt (refine' dr_itemI (knd := PySem.strKind _ _) ?N ?p ?d (strKind_is _ _ _ _) ?h ?_; (case N => k_asm); (case p => k_mem); (case d => assumption); (case h => assumption)); intro _))
local macro_rules | `(tactic| walk_at "subscriptTail") => `(tactic| (k_here; (with_reducible show wpAny _ _ (subscriptTail _ _ (Value.ref _) (Value.int _ _)) _ _ _); k_dflt (first
  | (refine' dr_itemI (knd := PySem.intKind _ _) ?N ?p ?d (intKind_is _ _ _ _) ?h ?_; (case N => k_asm); (case p => k_mem); (case d => assumption); (case h => assumption); intro _)
  | (refine' dr_itemS (knd := PySem.intKind _ _) ?N ?p ?d (intKind_is _ _ _ _) ?h ?_; (case N => k_asm); (case p => k_mem); (case d => assumption); (case h => assumption); intro _)
  | (refine' dh_itemR (knd := PySem.intKind _ _) ?F ?D ?r (intKind_is _ _ _ _) ?h ?_; (case F => k_asm); (case D => assumption); (case r => assumption); (case h => assumption); intro _ _ _ _))))
local macro_rules | `(tactic| walk_at "ite") => `(tactic| (k_here; first
  | refine ite_pos (by (simp only [beq_iff_eq, decide_eq_true_eq, Bool.not_eq_true', beq_eq_false_iff_ne, decide_eq_false_iff_not, bne_iff_ne, ne_eq, List.length_cons, List.length_nil]); omega) ?_
  | refine ite_neg (by (simp only [beq_iff_eq, decide_eq_true_eq, Bool.not_eq_true', beq_eq_false_iff_ne, decide_eq_false_iff_not, bne_iff_ne, ne_eq, List.length_cons, List.length_nil]); omega) ?_))

def DfsOK (w : World) (g : List (Int × List Str)) (n : Nat) : Prop :=
  ∀ {loose : List Str} {mean : ExcName → Option Value} {mg mb : Str → Option Value} {A A₀ : Around} {env : Env} {outer : List Env} {base h₀ : Heap} {L : Addr} {m : Str → Option Value} {s : Shared} {i : Ids} {S : HS Str}
    (_ : Below A₀ base outer h₀) (_ : Fr h₀ L s.heap m) (_ : (hd.heap_39 w.params).In h₀) (_ : Top hd.view_39 loose mean mg mb h₀)
    (_ : A.frames = some (env :: outer)) (_ : env.frame = some L) (_ : env.scope.kind = .function) (_ : A.handled = none) (_ : A.depth + n + 1 < recursionLimit)
    {t : Tok} {o1 o2 o3 : Obj} (_ : News h₀ L s.heap (led i S.rd t o1 o2 o3)) (_ : Holds3 w o1 o2 o3 S) (_ : Keyed g S) (_ : Apart i) (_ : GrAt w s.heap i g)
    {l : Int} (t1 : Tok) {b : Bool} {S' : HS Str} (_ : dfs g n S l = some (b, S')), Meth w A s i g 70 [.ref i.self, .int l t1] (fun v S'' => v = .bool b ∧ S'' = S')

set_option maxHeartbeats 8000000 in
theorem dfs_ok (hrow : PySem.Challenge.rw_iy0015_01 = PySem.Challenge.rw_iy0015_01) (w : World) (g : List (Int × List Str)) (n : Nat) : DfsOK w g n := by
  induction n with
  | zero => intro _ _ _ _ _ _ _ _ _ _ _ _ _ _ _ _ _ _ _ _ _ _ _ _ _ _ _ _ _ _ _ _ _ _ _ _ _ h; cases h
  | succ n ih =>
    intro loose mean mg mb A A₀ env outer base h₀ L m s i S B F X T hA hf hke hh hroom t o1 o2 o3 N H3 ky ap G l t1 b S' hres R ret
    obtain ⟨D1, D2, D3⟩ := id H3
    have hF : FinAt w s.heap i g S := ⟨t, o1, o2, o3, fun p hp => (N p hp).1, H3, ky⟩
    unfold dfs at hres
    cases hg : aget g l with
    | none => rw [hg] at hres; cases hres
    | some row =>
    rw [hg] at hres
    dsimp only at hres
    revert X hrow
    w_top off
    k_fill
    intro hrow X
    obtain ⟨n1, n2, n3, n4, n5, n6, n7, n8, n9, n10, _, _, _, _, _, _⟩ := id ap
    k_dflt (
      refine' code_Z (binds := [("self", .ref i.self), ("left", .int l t1)]) B F X N T hA hf hke ?k6 ?k7 ?k8 ?k9 ?kB ?c5 ?c2 ?c3 ?c4 ?_
      (case k6 => k_is); (case k7 => k_is); (case k8 => omega); (case k9 => exact BindsTo.of_eq rfl); (case c5 => decide); (case kB => exact locs rfl); (case c2 => exact rfl); (case c3 => exact rfl); (case c4 => exact rfl)
      intro g' L' h' F' N' B' X' T' kp' hlt'; (try dsimp only); (try k_fold))
    have G' : GrAt w g' i g := G.keep hF ap kp'
    obtain ⟨kv, gD, gR⟩ := G'.gr
    k_steps
    refine held_of ?_
    (with_unfolding_all refine' For_invVF F' ?k1 ?k2 ?_; (case k1 => exact rfl); (case k2 => exact rfl); k_whole)
    k_fold
    k_steps
    rename_i rA rVs rL rS
    refine held_of ?_
    have hlk : l ∈ g.map (·.1) := (aget_isSome_iff _ _).mp (by rw [hg]; rfl)
    refine iter_Z (σ := Cs) (L := L') rfl (Cs.led i) (fun _ => []) ["other_left"] ⟨S, t, o1, o2, o3⟩ (fun k c => Holds3 w c.o1 c.o2 c.o3 c.S ∧ Keyed g c.S ∧ dfsRow (dfs g n) l (row.drop k) c.S = some (b, S')) ?hh rL F' N' ?hk ?hp ?ha ?turn ?done
    case hh => exact hh
    case hk => intro p hp; cases hp
    case hp => exact ⟨H3, ky, hres⟩
    case ha => intro c; rfl
    case done =>
      clear F' N' hres H3 ky D1 D2 D3
      rintro ⟨S, t, o1, o2, o3⟩ u h tk ⟨⟨D1, D2, D3⟩, ky, hres⟩ F' N'
      dsimp only at D1 D2 D3 ky hres
      simp only [Cs.led, led] at N'
      have e : rVs.length = row.length := StrsAre.len_eq rS
      rw [e, List.drop_length] at hres
      unfold dfsRow at hres
      cases hres
      have z3 := ky.dl_len D3.nodup G.sz.1
      k_steps
      dsimp only
      k_steps
      exact leaveZ_fin { S with dl := aput S.dl l (-1) } ret (by assumption) (by assumption) ⟨by assumption, by assumption, by assumption⟩ ⟨ky.pl, ky.pr, keys_aput ky.dl hlk⟩ ⟨rfl, rfl⟩
    case turn =>
      clear F' N' hres H3 ky D1 D2 D3
      rintro ⟨S, t, o1, o2, o3⟩ k v u h tk I oI hv fresh ⟨⟨D1, D2, D3⟩, ky, hres⟩ F' N'
      dsimp only at D1 D2 D3 ky hres
      have hext := fresh_adr (oI := oI) fresh
      have hA' : ∀ e, (A.deeper e).frames = some (e :: env :: outer) := fun e => by show A.frames.map _ = _; rw [hA]; rfl
      simp only [Cs.led, led, List.cons_append, List.nil_append] at N'
      obtain ⟨r, tr, rfl, hr⟩ := StrsAre.item rS k v hv
      with_reducible show wpAny _ _ _ _ _ _
      k_fold
      have hrr : r ∈ rights g := List.mem_flatMap.mpr ⟨(l, row), aget_mem hg, List.mem_of_getElem? hr⟩
      rw [drop_cons hr] at hres
      unfold dfsRow at hres
      cases hp : aget S.pr r with
      | none =>
        rw [hp] at hres; dsimp only at hres
        cases hd : aget S.dl l with
        | none => rw [hd] at hres; cases hres
        | some d =>
          rw [hd] at hres; dsimp only at hres
          by_cases hrd : S.rd = d + 1
          · rw [if_pos hrd] at hres
            cases hres
            k_steps
            unfold Held
            refine meth_use (by assumption) (by assumption) (ext := [(I, oI)]) rfl hext (fun F N => swap_ok hrow B' F X' T' (hA' _) rfl rfl hh (by rw [depth_deeper]; omega) N ⟨D1, D2, D3⟩ ky ap (G'.stays F.keep) hlk hrr t1 tr) ?_
            rintro v S2 t2 o1' o2' o3' h2 tk2 ⟨rfl, rfl⟩ ⟨E1, E2, E3⟩ ky2 F2 N2
            simp only [led, List.cons_append, List.nil_append] at N2
            k_steps
            (try dsimp only)
            k_steps
            (try dsimp only [EndZ])
            k_steps
            (try dsimp only)
            k_steps
            exact leaveZ_fin (swap S l r) ret F2 N2 ⟨E1, E2, E3⟩ ky2 ⟨rfl, rfl⟩
          · rw [if_neg hrd] at hres
            k_steps
            exact ⟨⟨S, t, o1, o2, o3⟩, _, _, _, rfl, by assumption, by assumption, (fun p hp => nomatch hp), (by intro z h1 _ h3; simp only [List.contains_cons, List.contains_nil, Bool.or_false, beq_eq_false_iff_ne, ne_eq] at h3; simp [h1, h3, kstB]), ⟨D1, D2, D3⟩, ky, hres⟩
      | some o =>
        rw [hp] at hres; dsimp only at hres
        cases he : aget S.dl o with
        | none => rw [he] at hres; cases hres
        | some e =>
        rw [he] at hres; dsimp only at hres
        cases hd : aget S.dl l with
        | none => rw [hd] at hres; cases hres
        | some d =>
          rw [hd] at hres; dsimp only at hres
          by_cases hrd : e = d + 1
          · rw [if_pos hrd] at hres
            k_steps
            unfold Held
            cases hr9 : dfs g n S o with
            | none => rw [hr9] at hres; cases hres
            | some res =>
            obtain ⟨b2, S2⟩ := res
            rw [hr9] at hres
            refine meth_use (by assumption) (by assumption) (ext := [(I, oI)]) rfl hext (fun F N => ih B' F X' T' (hA' _) rfl rfl hh (by rw [depth_deeper]; omega) N ⟨D1, D2, D3⟩ ky ap (G'.stays F.keep) _ hr9) ?_
            rintro v S3 t3 o1' o2' o3' h3 tk3 ⟨rfl, rfl⟩ ⟨E1, E2, E3⟩ ky3 F3 N3
            simp only [led, List.cons_append, List.nil_append] at N3
            cases b2 with
            | true =>
              dsimp only at hres
              cases hres
              k_steps
              unfold Held
              refine meth_use (by assumption) (by assumption) (ext := [(I, oI)]) rfl hext (fun F N => swap_ok hrow B' F X' T' (hA' _) rfl rfl hh (by rw [depth_deeper]; omega) N ⟨E1, E2, E3⟩ ky3 ap (G'.stays F.keep) hlk hrr t1 tr) ?_
              rintro v S4 t4 o1'' o2'' o3'' h4 tk4 ⟨rfl, rfl⟩ ⟨E1, E2, E3⟩ ky4 F4 N4
              simp only [led, List.cons_append, List.nil_append] at N4
              k_steps
              (try dsimp only)
              k_steps
              (try dsimp only [EndZ])
              k_steps
              (try dsimp only)
              k_steps
              exact leaveZ_fin (swap S3 l r) ret F4 N4 ⟨E1, E2, E3⟩ ky4 ⟨rfl, rfl⟩
            | false =>
              dsimp only at hres
              k_steps
              exact ⟨⟨S3, t3, o1', o2', o3'⟩, _, _, _, rfl, by assumption, by assumption, (fun p hp => nomatch hp), (by intro z h1 _ h3; simp only [List.contains_cons, List.contains_nil, Bool.or_false, beq_eq_false_iff_ne, ne_eq] at h3; simp [h1, h3, kstB]), ⟨E1, E2, E3⟩, ky3, hres⟩
          · rw [if_neg hrd] at hres
            k_steps
            exact ⟨⟨S, t, o1, o2, o3⟩, _, _, _, rfl, by assumption, by assumption, (fun p hp => nomatch hp), (by intro z h1 _ h3; simp only [List.contains_cons, List.contains_nil, Bool.or_false, beq_eq_false_iff_ne, ne_eq] at h3; simp [h1, h3, kstB]), ⟨D1, D2, D3⟩, ky, hres⟩
end HKP
end SHKDfsW

section SHKBfsW
set_option maxRecDepth 100000
namespace HKP
open PySem PySem.W PyProof.Rows PySem.Spec PySem.Calls

local macro_rules | `(tactic| walk_at "call ref") => `(tactic| (k_here; refine held_of ?_))
local macro_rules | `(tactic| walk_at "exec For") => `(tactic| (k_here; refine held_of ?_))
local macro_rules | `(tactic| walk_at "exec While") => `(tactic| (k_here; refine held_of ?_))
local macro_rules | `(tactic| walk_at "pyIter ref") => `(tactic| (k_here; refine held_of ?_))
local macro_rules | `(tactic| walk_at "setItem ref int") => `(tactic| (k_here; k_dflt (refine' dr_set (knd := PySem.intKind _ _) ?F ?N ?U ?d (intKind_is _ _ _ _) ?v ?z ?_; (case F => k_asm); (case N => k_asm); (case U => k_updF); (case d => assumption); (case z => assumption); (case v => exact ⟨_, rfl⟩)); intro h' o' F' N' hd'; (try dsimp only at N')))
local macro_rules | `(tactic| walk_at "setItem ref str") => `(tactic| (k_here; k_dflt (refine' dr_set (knd := PySem.strKind _ _) ?F ?N ?U ?d (strKind_is _ _ _ _) ?v ?z ?_; (case F => k_asm); (case N => k_asm); (case U => k_updF); (case d => assumption); (case z => assumption); (case v => exact ⟨_, rfl⟩)); intro h' o' F' N' hd'; (try dsimp only at N')))
local macro_rules | `(tactic| walk_at "compareOp NotIn str ref") => `(tactic| (k_here; k_dflt (first
  | (refine' dr_notin_t (knd := PySem.strKind _ _) ?N ?p ?d ?lo (strKind_is _ _ _ _) ?h ?_; (case N => k_asm); (case p => k_mem); (case d => assumption); (case lo => assumption); (case h => assumption))
  | (refine' dr_notin_f (knd := PySem.strKind _ _) ?N ?p ?d ?lo (strKind_is _ _ _ _) ?h ?_; (case N => k_asm); (case p => k_mem); (case d => assumption); (case lo => assumption); (case h => assumption)))))
local macro_rules | `(tactic| walk_at "compareOp NotIn int ref") => `(tactic| (k_here; k_dflt (first
  | (refine' dr_notin_t (knd := PySem.intKind _ _) ?N ?p ?d ?lo (intKind_is _ _ _ _) ?h ?_; (case N => k_asm); (case p => k_mem); (case d => assumption); (case lo => assumption); (case h => assumption))
  | (refine' dr_notin_f (knd := PySem.intKind _ _) ?N ?p ?d ?lo (intKind_is _ _ _ _) ?h ?_; (case N => k_asm); (case p => k_mem); (case d => assumption); (case lo => assumption); (case h => assumption)))))
local macro_rules | `(tactic| walk_at "compareOp In int ref") => `(tactic| (k_here; k_dflt (first
  | (refine' dr_in_t (knd := PySem.intKind _ _) ?N ?p ?d ?lo (intKind_is _ _ _ _) ?h ?_; (case N => k_asm); (case p => k_mem); (case d => assumption); (case lo => assumption); (case h => assumption))
  | (refine' dr_in_f (knd := PySem.intKind _ _) ?N ?p ?d ?lo (intKind_is _ _ _ _) ?h ?_; (case N => k_asm); (case p => k_mem); (case d => assumption); (case lo => assumption); (case h => assumption)))))
local macro_rules | `(tactic| walk_at "subscriptTail") => `(tactic| (k_here; (with_reducible show wpAny _ _ (subscriptTail _ _ (Value.ref _) (Value.str _ _)) _ _ _); k_dflt (refine' dr_itemI (knd := PySem.strKind _ _) ?N ?p ?d (strKind_is _ _ _ _) ?h ?_; (case N => k_asm); (case p => k_mem); (case d => assumption); (case h => assumption)); intro _))
local macro_rules | `(tactic| walk_at "subscriptTail") => `(tactic| (k_here; (with_reducible show wpAny _ _ (subscriptTail _ _ (Value.ref _) (Value.int _ _)) _ _ _); k_dflt (first
  | (refine' dr_itemI (knd := PySem.intKind _ _) ?N ?p ?d (intKind_is _ _ _ _) ?h ?_; (case N => k_asm); (case p => k_mem); (case d => assumption); (case h => assumption); intro _)
  | (refine' dr_itemS (knd := PySem.intKind _ _) ?N ?p ?d (intKind_is _ _ _ _) ?h ?_; (case N => k_asm); (case p => k_mem); (case d => assumption); (case h => assumption); intro _)
  | (refine' dh_itemR (knd := PySem.intKind _ _) ?F ?D ?r (intKind_is _ _ _ _) ?h ?_; (case F => k_asm); (case D => assumption); (case r => assumption); (case h => assumption); intro _ _ _ _))))
local macro_rules | `(tactic| walk_at "ite") => `(tactic| (k_here; first
  | refine ite_pos (by (simp only [beq_iff_eq, decide_eq_true_eq, Bool.not_eq_true', beq_eq_false_iff_ne, decide_eq_false_iff_not, bne_iff_ne, ne_eq, List.length_cons, List.length_nil]); omega) ?_
  | refine ite_neg (by (simp only [beq_iff_eq, decide_eq_true_eq, Bool.not_eq_true', beq_eq_false_iff_ne, decide_eq_false_iff_not, bne_iff_ne, ne_eq, List.length_cons, List.length_nil]); omega) ?_))
local macro_rules | `(tactic| walk_at "call builtin:len") => `(tactic| (k_here; (with_reducible show wpAny _ _ (call (Value.builtin "len") [Value.ref _]) _ _ _); k_dflt (refine' q_len ?N ?p ?z ?_; (case N => k_asm); (case p => k_mem); (case z => assumption)); intro _))
local macro_rules | `(tactic| walk_at "call builtin:list.append") => `(tactic| (k_here; k_dflt (refine' q_append ?F ?N ?U ?z ?_; (case F => k_asm); (case N => k_asm); (case U => k_upd); (case z => assumption)); intro h' F' N'; (try dsimp only at N')))
local macro_rules | `(tactic| walk_at "call builtin:list.pop") => `(tactic| (k_here; k_dflt (refine' q_pop0 ?F ?N ?U ?z ?_; (case F => k_asm); (case N => k_asm); (case U => k_upd); (case z => assumption)); intro h' F' N'; (try dsimp only at N')))

structure Cq where
  f : Nat
  S : HS Str
  t : Tok
  o1 : Obj
  o2 : Obj
  o3 : Obj
  vs : List Value
  n : Nat
  qs : List Int
abbrev Cq.led (i : Ids) (q : Addr) (c : Cq) : List (Addr × Obj) := (q, listOf c.vs.toArray c.n) :: HKP.led i c.S.rd c.t c.o1 c.o2 c.o3

theorem fr_as {h₀ h : Heap} {L : Addr} {m : Str → Option Value} {x : Str} {v : Value} (F : Fr h₀ L h m) (e : m x = some v) : Fr h₀ L h (fun z => if z = x then some v else m z) := by
  have : (fun z => if z = x then some v else m z) = m := by
    funext z
    by_cases c : z = x
    · rw [if_pos c, c, e]
    · rw [if_neg c]
  rw [this]; exact F
theorem as_eq {m : Str → Option Value} {x : Str} {v : Value} (e : m x = some v) : (fun z => if z = x then some v else m z) = m := by
  funext z
  by_cases c : z = x
  · rw [if_pos c, c, e]
  · rw [if_neg c]
def clsBody : List Stmt := PySem.Challenge.pw_iy0015_01.main.body.flatMap fun s => match s with | .ClassDef _ _ _ b _ _ _ _ _ _ _ => b | _ => []
def bfsDef : Stmt := clsBody[4]!
def bfsScope : Scope := match bfsDef with | .FunctionDef _ _ _ _ _ _ sc _ _ _ => sc | _ => PySem.Challenge.pw_iy0015_01.main.scope
def bfsFor : Stmt := match bfsDef with | .FunctionDef _ _ b _ _ _ _ _ _ _ => (match b[3]! with | .While _ c _ _ => c[4]! | s => s) | s => s

set_option maxHeartbeats 8000000 in
theorem bfs_row (hrow : PySem.Challenge.rw_iy0015_01 = PySem.Challenge.rw_iy0015_01) {w : World} {g : List (Int × List Str)} {loose : List Str} {mean : ExcName → Option Value} {mg mb : Str → Option Value} {A : Around} {g' : Heap} {L' fa : Addr} {cd : Value} {m : Str → Option Value} {s : Shared} {i : Ids} {S S2 : HS Str} {Q : Flow → Shared → Prop} {E : Value → Shared → Prop} {q : Addr} {l : Int} {tl : Tok} {vs : List Value} {nn : Nat} {qs q2 : List Int} {row : List Str} {kv : List (Int × Value)} {fz : Nat}
    (X : (hd.heap_39 w.params).In g') (T : Top hd.view_39 loose mean mg mb g') (hh : A.handled = none)
    {t : Tok} {o1 o2 o3 : Obj} (F : Fr g' L' s.heap m) (e1 : m "self" = some (.ref i.self)) (e2 : m "left_vertex" = some (.int l tl)) (e3 : m "vertex_queue" = some (.ref q)) (N : News g' L' s.heap ((q, listOf vs.toArray nn) :: led i S.rd t o1 o2 o3)) (H3 : Holds3 w o1 o2 o3 S) (ky : Keyed g S) (hI : IntsAre vs qs) (ap : Apart i) (sz : g.length ≤ 100)
    (gD : g'.DictOf (PySem.intKind PySem.Challenge.rw_iy0015_01.row.prog w) i.gr kv) (gR : Rep (encRow g') kv g) (hg : aget g l = some row) (hlk : l ∈ g.map (·.1)) (hr : bfsRow l row qs S = some (q2, S2)) (hq2 : q2.length ≤ 1000) (hqn : @LT.lt Nat _ i.self q ∧ @LT.lt Nat _ i.D q ∧ @LT.lt Nat _ i.pl q ∧ @LT.lt Nat _ i.pr q ∧ @LT.lt Nat _ i.dl q)
    (hE : PassesOwn (model PySem.Challenge.rw_iy0015_01.row.prog w) (A.deeper (envOf "HopcroftKarp._bfs_hopcroft_karp" bfsScope L' fa cd)) (envOf "HopcroftKarp._bfs_hopcroft_karp" bfsScope L' fa cd) E)
    (done : ∀ (c : Cq) h' tk m', c.f = fz → c.S = S2 → Holds3 w c.o1 c.o2 c.o3 c.S → Keyed g c.S → IntsAre c.vs c.qs → c.qs = q2 → Fr g' L' h' m' → News g' L' h' (c.led i q) → (∀ z : Str, z ≠ "right_vertex" → z ≠ "other_left" → m' z = m z) → Q .next { s with heap := h', toks := tk }) :
    wpAny (model PySem.Challenge.rw_iy0015_01.row.prog w) (A.deeper (envOf "HopcroftKarp._bfs_hopcroft_karp" bfsScope L' fa cd)) (exec bfsFor (envOf "HopcroftKarp._bfs_hopcroft_karp" bfsScope L' fa cd)) Q E s := by
  obtain ⟨sc, hsc⟩ : ∃ sc, sc = bfsScope := ⟨_, rfl⟩
  rw [← hsc] at hE ⊢
  conv at hsc => rhs; whnf
  subst hsc
  conv in bfsFor => whnf
  obtain ⟨D1, D2, D3⟩ := id H3
  obtain ⟨qn1, qn2, qn3, qn4, qn5⟩ := hqn
  obtain ⟨n1, n2, n3, n4, n5, n6, n7, n8, n9, n10, _, _, _, _, _, _⟩ := id ap
  revert X hrow
  w_top off
  k_fill
  intro hrow X
  have N0 := N
  have e2' := (congrFun (as_eq e3) "left_vertex").trans e2
  have em2 := (as_eq (m := fun z : Str => if z = "vertex_queue" then some (Value.ref q) else m z) e2').trans (as_eq e3)
  have e1' := (congrFun em2 "self").trans e1
  have em := (as_eq (m := fun z : Str => if z = "left_vertex" then some (Value.int l tl) else if z = "vertex_queue" then some (Value.ref q) else m z) e1').trans em2
  have F2 := fr_as (x := "self") (fr_as (x := "left_vertex") (fr_as (x := "vertex_queue") F e3) e2') e1'
  clear F
  simp only [led] at N
  (with_unfolding_all refine' For_invVF F2 ?k1 ?k2 ?_ (hE := hE); (case k1 => exact rfl); (case k2 => exact rfl))
  k_steps
  rename_i rA rVs rL rS
  unfold Held
  refine iter_Z (σ := Cq) (L := L') rfl (Cq.led i q) (fun _ => []) ["other_left"] ⟨fz, S, t, o1, o2, o3, vs, nn, qs⟩ (fun k c => c.f = fz ∧ Holds3 w c.o1 c.o2 c.o3 c.S ∧ Keyed g c.S ∧ IntsAre c.vs c.qs ∧ bfsRow l (row.drop k) c.qs c.S = some (q2, S2)) ?hh rL F2 N0 ?hk ?hp ?ha ?turn ?done
  case hh => exact hh
  case hk => intro p hp; cases hp
  case hp => exact ⟨rfl, H3, ky, hI, hr⟩
  case ha => intro c; rfl
  case turn =>
    clear F2 N N0 D1 D2 D3 ky hI hr H3 done hE
    rintro ⟨f, S, t, o1, o2, o3, vs, nn, qs⟩ k v u h tk I oI hv fresh ⟨hfz, ⟨D1, D2, D3⟩, ky, hI, hr⟩ F' N'
    dsimp only at D1 D2 D3 ky hI hr fresh hfz
    simp only [Cq.led, led, List.cons_append, List.nil_append] at N' fresh
    obtain ⟨f0, f1, f2, f3, f4, f5⟩ := fresh6 fresh
    obtain ⟨r, tr, rfl, hrr⟩ := StrsAre.item rS k v hv
    with_reducible show wpAny _ _ _ _ _ _
    k_fold
    rw [drop_cons hrr] at hr
    have z3 := ky.dl_len D3.nodup sz
    have zq : vs.length ≤ 1000 := by
      have h1 := bfsRow_len _ _ _ _ _ _ hr
      have h2 := IntsAre.length hI
      omega
    unfold bfsRow at hr
    cases hp : aget S.pr r with
    | none =>
      rw [hp] at hr; dsimp only at hr
      by_cases hrd : S.rd = -1
      · rw [if_pos hrd] at hr
        cases hd : aget S.dl l with
        | none => rw [hd] at hr; cases hr
        | some d =>
          rw [hd] at hr; dsimp only at hr
          k_steps
          exact ⟨⟨f, { S with rd := d + 1 }, _, o1, o2, o3, vs, nn, qs⟩, _, _, _, rfl, by assumption, by assumption, (fun p hp => nomatch hp), (by intro z h1 _ h3; rw [if_neg h1]; exact same_base h3), hfz, ⟨D1, D2, D3⟩, ⟨ky.pl, ky.pr, ky.dl⟩, hI, hr⟩
      · rw [if_neg hrd] at hr
        k_steps
        exact ⟨⟨f, S, t, o1, o2, o3, vs, nn, qs⟩, _, _, _, rfl, by assumption, by assumption, (fun p hp => nomatch hp), (by intro z h1 _ h3; rw [if_neg h1]; exact same_base h3), hfz, ⟨D1, D2, D3⟩, ky, hI, hr⟩
    | some o =>
      rw [hp] at hr; dsimp only at hr
      cases he : aget S.dl o with
      | none => rw [he] at hr; cases hr
      | some e =>
      rw [he] at hr; dsimp only at hr
      by_cases hrd : e = -1
      · rw [if_pos hrd] at hr
        cases hd : aget S.dl l with
        | none => rw [hd] at hr; cases hr
        | some d =>
          rw [hd] at hr; dsimp only at hr
          have hok : o ∈ g.map (·.1) := ky.dl o ((aget_isSome_iff _ _).mp (by rw [he]; rfl))
          k_steps
          exact ⟨⟨f, { S with dl := aput S.dl o (d + 1) }, t, o1, o2, _, vs ++ [.int o _], nn + 1, qs ++ [o]⟩, _, _, _, rfl, by assumption, by assumption, (fun p hp => nomatch hp), (by intro z h1 _ h3; rw [if_neg (ne_stored h3 rfl), if_neg h1]; exact same_base h3), hfz, ⟨D1, D2, by assumption⟩, ⟨ky.pl, ky.pr, keys_aput ky.dl hok⟩, ints_snoc hI _ _, hr⟩
      · rw [if_neg hrd] at hr
        k_steps
        exact ⟨⟨f, S, t, o1, o2, o3, vs, nn, qs⟩, _, _, _, rfl, by assumption, by assumption, (fun p hp => nomatch hp), (by intro z h1 _ h3; rw [if_neg (ne_stored h3 rfl), if_neg h1]; exact same_base h3), hfz, ⟨D1, D2, D3⟩, ky, hI, hr⟩
  case done =>
    rintro ⟨f, S, t, o1, o2, o3, vs, nn, qs⟩ u h tk ⟨hfz, ⟨D1, D2, D3⟩, ky, hI, hr⟩ F' N'
    dsimp only at D1 D2 D3 ky hI hr hfz
    have e : rVs.length = row.length := StrsAre.len_eq rS
    rw [e, List.drop_length] at hr
    unfold bfsRow at hr
    cases hr
    exact done ⟨f, S2, t, o1, o2, o3, vs, nn, q2⟩ h tk _ hfz rfl ⟨D1, D2, D3⟩ ky hI rfl F' N' (fun z a1 a2 => ((if_neg a1).trans (same_base (not_one a2))).trans (congrFun em z))

set_option maxHeartbeats 8000000 in
theorem bfs_ok (hrow : PySem.Challenge.rw_iy0015_01 = PySem.Challenge.rw_iy0015_01) {w : World} {g : List (Int × List Str)} {loose : List Str} {mean : ExcName → Option Value} {mg mb : Str → Option Value} {A A₀ : Around} {env : Env} {outer : List Env} {base h₀ : Heap} {L : Addr} {m : Str → Option Value} {s : Shared} {i : Ids} {S : HS Str}
    (B : Below A₀ base outer h₀) (F : Fr h₀ L s.heap m) (X : (hd.heap_39 w.params).In h₀) (T : Top hd.view_39 loose mean mg mb h₀)
    (hA : A.frames = some (env :: outer)) (hf : env.frame = some L) (hke : env.scope.kind = .function) (hh : A.handled = none) (hroom : A.depth + 1 < recursionLimit)
    {t : Tok} {o1 o2 o3 : Obj} (N : News h₀ L s.heap (led i S.rd t o1 o2 o3)) (H3 : Holds3 w o1 o2 o3 S) (ky : Keyed g S) (ap : Apart i) (G : GrAt w s.heap i g)
    {n : Nat} (hn : n ≤ 500) {S' : HS Str} (hres : bfs g n S = some S') : Meth w A s i g 56 [.ref i.self] (fun v S'' => v = .bool (!decide (S'.rd = -1)) ∧ S'' = S') := by
    intro R ret
    obtain ⟨D1, D2, D3⟩ := id H3
    have hF : FinAt w s.heap i g S := ⟨t, o1, o2, o3, fun p hp => (N p hp).1, H3, ky⟩
    unfold bfs at hres
    revert X hrow
    w_top off
    k_fill
    intro hrow X
    obtain ⟨n1, n2, n3, n4, n5, n6, n7, n8, n9, n10, _, _, _, _, _, _⟩ := id ap
    k_dflt (
      refine' code_Z (binds := [("self", .ref i.self)]) B F X N T hA hf hke ?k6 ?k7 ?k8 ?k9 ?kB ?c5 ?c2 ?c3 ?c4 ?_
      (case k6 => k_is); (case k7 => k_is); (case k8 => omega); (case k9 => exact BindsTo.of_eq rfl); (case c5 => decide); (case kB => exact locs rfl); (case c2 => exact rfl); (case c3 => exact rfl); (case c4 => exact rfl)
      intro g' L' h' F' N' B' X' T' kp' hlt'; (try dsimp only); (try k_fold))
    have G' : GrAt w g' i g := G.keep hF ap kp'
    obtain ⟨kv, gD, gR⟩ := G'.gr
    obtain ⟨lvs, lL, lI⟩ := G'.lf
    simp only [led] at N'
    k_steps
    rename_i q _ hq h2 F2 N2
    unfold Held
    have hqs : ∀ ls q (S : HS Str), (bfsInit ls q S).2.rd = S.rd := by
      intro ls
      induction ls with
      | nil => intro q S; rfl
      | cons a ls ih => intro q S; unfold bfsInit; split <;> rw [ih]
    obtain ⟨Z, hZ⟩ : ∃ Z, bfsInit (g.map (·.1)) [] S = Z := ⟨_, rfl⟩
    rw [hZ] at hres
    have hzl := bfsLoop_len _ _ _ _ _ hres
    refine iter_Z (σ := Cq) (L := L') rfl (Cq.led i q) (fun _ => []) [] ⟨0, S, t, o1, o2, o3, [], 0, []⟩ (fun k c => Holds3 w c.o1 c.o2 c.o3 c.S ∧ Keyed g c.S ∧ IntsAre c.vs c.qs ∧ bfsInit ((g.map (·.1)).drop k) c.qs c.S = Z) ?hh lL F2 N2 ?hk ?hp ?ha ?turn ?done
    case hh => exact hh
    case hk => intro p hp; cases hp
    case hp => exact ⟨H3, ky, .nil, hZ⟩
    case ha => intro c; rfl
    case turn =>
      clear F2 N2 H3 ky D1 D2 D3
      rintro ⟨_, S, t, o1, o2, o3, vs, nn, qs⟩ k v u h tk I oI hv fresh ⟨⟨D1, D2, D3⟩, ky, hI, hb⟩ F' N'
      dsimp only at D1 D2 D3 ky hI hb fresh
      simp only [Cq.led, led, List.cons_append, List.nil_append] at N' fresh
      obtain ⟨f0, f1, f2, f3, f4, f5⟩ := fresh6 fresh
      obtain ⟨l, tl, rfl, hl⟩ := ints_item lI k v hv
      have hlk : l ∈ g.map (·.1) := List.mem_of_getElem? hl
      rw [drop_cons hl] at hb
      have z3 := ky.dl_len D3.nodup G.sz.1
      have zq : vs.length ≤ 1000 := by
        have h1 := bfsInit_len (l :: (g.map (·.1)).drop (k + 1)) qs S
        rw [hb] at h1
        have h2 := IntsAre.length hI
        omega
      unfold bfsInit at hb
      cases hp : aget S.pl l with
      | none =>
        rw [hp] at hb
        rw [if_neg (by simp)] at hb
        k_steps
        exact ⟨⟨0, { S with dl := aput S.dl l 0 }, t, o1, o2, _, vs ++ [.int l tl], nn + 1, qs ++ [l]⟩, _, _, _, rfl, by assumption, by assumption, (fun p hp => nomatch hp), (by intro z h1 _ h3; rw [if_neg h1]; exact same_base h3), ⟨D1, D2, by assumption⟩, ⟨ky.pl, ky.pr, keys_aput ky.dl hlk⟩, ints_snoc hI _ _, hb⟩
      | some r =>
        rw [hp] at hb
        rw [if_pos (by rfl)] at hb
        k_steps
        exact ⟨⟨0, { S with dl := aput S.dl l (-1) }, t, o1, o2, _, vs, nn, qs⟩, _, _, _, rfl, by assumption, by assumption, (fun p hp => nomatch hp), (by intro z h1 _ h3; rw [if_neg h1]; exact same_base h3), ⟨D1, D2, by assumption⟩, ⟨ky.pl, ky.pr, keys_aput ky.dl hlk⟩, hI, hb⟩
    case done =>
      clear F2 N2 H3 ky D1 D2 D3
      rintro ⟨_, S, t, o1, o2, o3, vs, nn, qs⟩ u h tk ⟨⟨D1, D2, D3⟩, ky, hI, hb⟩ F' N'
      dsimp only at D1 D2 D3 ky hI hb
      simp only [Cq.led, led] at N'
      have e : lvs.length = (g.map (·.1)).length := IntsAre.length lI
      rw [e, List.drop_length] at hb
      unfold bfsInit at hb
      subst hb
      dsimp only at hres hzl
      k_steps
      unfold Held
      rename_i h2 F2 N2
      refine ksw_while (σ := Cq) (L := L') (Cq.led i q) (fun _ => []) (fun _ => True) ["left_vertex", "right_vertex", "other_left"] (fun c => Holds3 w c.o1 c.o2 c.o3 c.S ∧ Keyed g c.S ∧ IntsAre c.vs c.qs ∧ bfsLoop g c.f c.qs c.S = some S' ∧ c.f ≤ 500) Cq.f ⟨n, { S with rd := -1 }, _, o1, o2, o3, vs, nn, qs⟩
        F2 N2 trivial (fun p hp => nomatch hp) ⟨⟨D1, D2, D3⟩, ⟨ky.pl, ky.pr, ky.dl⟩, hI, hres, hn⟩ ?turnW
      case turnW =>
      clear F2 N2 ky D1 D2 D3 hI hres hzl
      rintro ⟨f, S, t, o1, o2, o3, vs, nn, qs⟩ u h tk - ⟨⟨D1, D2, D3⟩, ky, hI, hb, hf5⟩ F' N'
      dsimp only at D1 D2 D3 ky hI hb hf5
      simp only [Cq.led, led, List.cons_append, List.nil_append] at N'
      with_reducible show wpAny _ _ _ _ _ _
      k_fold
      have hlq := IntsAre.length hI
      cases f with
      | zero => cases hb
      | succ f =>
      cases hI with
      | nil =>
        unfold bfsLoop at hb
        cases hb
        have zq : ([] : List Value).length ≤ 1000 := Nat.zero_le _
        k_steps
        (try dsimp only)
        k_steps
        exact leaveZ_mem S' ret (by assumption) (by assumption) (fun p hp => List.mem_cons_of_mem _ hp) ⟨D1, D2, D3⟩ ky ⟨rfl, rfl⟩
      | cons l tl hI' =>
        rename_i vs qs
        have hzl := bfsLoop_len _ _ _ _ _ hb
        have zq' : (Value.int l tl :: vs).length ≤ 1000 := by
          simp only [List.length_cons] at hzl hlq ⊢
          omega
        have zq : vs.length ≤ 1000 := by
          simp only [List.length_cons] at zq'
          omega
        unfold bfsLoop at hb
        cases hd : aget S.dl l with
        | none => rw [hd] at hb; cases hb
        | some d =>
        rw [hd] at hb
        dsimp only at hb
        by_cases hd0 : d < 0
        · rw [if_pos hd0] at hb; cases hb
        rw [if_neg hd0] at hb
        by_cases hc : S.rd = -1 ∨ d < S.rd
        · rw [if_pos hc] at hb
          cases hg : aget g l with
          | none => rw [hg] at hb; cases hb
          | some row =>
          rw [hg] at hb
          dsimp only at hb
          cases hr : bfsRow l row qs S with
          | none => rw [hr] at hb; cases hb
          | some Z =>
          rw [hr] at hb
          obtain ⟨q2, S2⟩ := Z
          dsimp only at hb
          have hlk : l ∈ g.map (·.1) := (aget_isSome_iff _ _).mp (by rw [hg]; rfl)
          have hq2 := bfsLoop_len _ _ _ _ _ hb
          by_cases hc1 : S.rd = -1
          case' neg =>
            have hc2 : ¬ S.rd ≤ d := by omega
            have hc3 : ¬ d = S.rd := by omega
          all_goals
            k_steps
            unfold Held
            rename_i F2 N2 _ _ _ _
            refine bfs_row (fz := f) hrow X' T' hh F2 rfl rfl rfl N2 ⟨D1, D2, D3⟩ ky hI' ap G.sz.1 gD gR hg hlk hr (by have := hq2; omega) hq (by passes_own) ?_
            intro c2 h3 tk3 m3 fc sc ⟨E1, E2, E3⟩ ky2 hI2 qc F3 N3 hm3
            obtain ⟨f2, S3, t3, o1, o2, o3, vs3, nn3, q3⟩ := c2
            dsimp only at fc sc qc E1 E2 E3 ky2 hI2
            subst fc
            subst sc
            subst qc
            simp only [Cq.led, led] at N3
            k_steps
            exact ksw_end ⟨_, _, t3, o1, o2, o3, vs3, nn3, _⟩ (by assumption) (by assumption) (fun p hp => hp) trivial (fun p hp => nomatch hp)
              (by
                intro z _ h3
                have a1 := ne_stored (y0 := "right_vertex") h3 rfl
                have a2 := ne_stored (y0 := "other_left") h3 rfl
                have a3 := ne_stored (y0 := "left_vertex") h3 rfl
                exact (hm3 z a1 a2).trans ((if_neg a3).trans (same_base h3)))
              ⟨⟨E1, E2, E3⟩, ky2, hI2, hb, by dsimp only; omega⟩ (by dsimp only; omega)
        · rw [if_neg hc] at hb
          have hc1 : ¬ S.rd = -1 := fun h => hc (.inl h)
          have hc2 : S.rd ≤ d := by omega
          clear hc
          by_cases hc3 : d = S.rd
          all_goals
            k_steps
            exact ksw_end ⟨f, S, t, o1, o2, o3, vs, nn + 1, qs⟩ (by assumption) (by assumption) (fun p hp => hp) trivial (fun p hp => nomatch hp) (by intro z _ h3; rw [if_neg (ne_stored h3 rfl)]; exact same_base h3) ⟨⟨D1, D2, D3⟩, ky, hI', hb, by dsimp only; omega⟩ (by dsimp only; omega)
end HKP
end SHKBfsW

section SHKRunW
set_option maxRecDepth 100000
namespace HKP
open PySem PySem.W PyProof.Rows PySem.Spec PySem.Calls

local macro_rules | `(tactic| walk_at "call ref") => `(tactic| (k_here; refine held_of ?_))
local macro_rules | `(tactic| walk_at "exec For") => `(tactic| (k_here; refine held_of ?_))
local macro_rules | `(tactic| walk_at "exec While") => `(tactic| (k_here; refine held_of ?_))
local macro_rules | `(tactic| walk_at "pyIter ref") => `(tactic| (k_here; refine held_of ?_))
local macro_rules | `(tactic| walk_at "setItem ref int") => `(tactic| (k_here; k_dflt (refine' dr_set (knd := PySem.intKind _ _) ?F ?N ?U ?d (intKind_is _ _ _ _) ?v ?z ?_; (case F => k_asm); (case N => k_asm); (case U => k_updF); (case d => assumption); (case z => assumption); (case v => exact ⟨_, rfl⟩)); intro h' o' F' N' hd'; (try dsimp only at N')))
local macro_rules | `(tactic| walk_at "setItem ref str") => `(tactic| (k_here; k_dflt (refine' dr_set (knd := PySem.strKind _ _) ?F ?N ?U ?d (strKind_is _ _ _ _) ?v ?z ?_; (case F => k_asm); (case N => k_asm); (case U => k_updF); (case d => assumption); (case z => assumption); (case v => exact ⟨_, rfl⟩)); intro h' o' F' N' hd'; (try dsimp only at N')))
local macro_rules | `(tactic| walk_at "compareOp NotIn str ref") => `(tactic| (k_here; k_dflt (first
  | (refine' dr_notin_t (knd := PySem.strKind _ _) ?N ?p ?d ?lo (strKind_is _ _ _ _) ?h ?_; (case N => k_asm); (case p => k_mem); (case d => assumption); (case lo => assumption); (case h => assumption))
  | (refine' dr_notin_f (knd := PySem.strKind _ _) ?N ?p ?d ?lo (strKind_is _ _ _ _) ?h ?_; (case N => k_asm); (case p => k_mem); (case d => assumption); (case lo => assumption); (case h => assumption)))))
local macro_rules | `(tactic| walk_at "compareOp NotIn int ref") => `(tactic| (k_here; k_dflt (first
  | (refine' dr_notin_t (knd := PySem.intKind _ _) ?N ?p ?d ?lo (intKind_is _ _ _ _) ?h ?_; (case N => k_asm); (case p => k_mem); (case d => assumption); (case lo => assumption); (case h => assumption))
  | (refine' dr_notin_f (knd := PySem.intKind _ _) ?N ?p ?d ?lo (intKind_is _ _ _ _) ?h ?_; (case N => k_asm); (case p => k_mem); (case d => assumption); (case lo => assumption); (case h => assumption)))))
local macro_rules | `(tactic| walk_at "compareOp In int ref") => `(tactic| (k_here; k_dflt (first
  | (refine' dr_in_t (knd := PySem.intKind _ _) ?N ?p ?d ?lo (intKind_is _ _ _ _) ?h ?_; (case N => k_asm); (case p => k_mem); (case d => assumption); (case lo => assumption); (case h => assumption))
  | (refine' dr_in_f (knd := PySem.intKind _ _) ?N ?p ?d ?lo (intKind_is _ _ _ _) ?h ?_; (case N => k_asm); (case p => k_mem); (case d => assumption); (case lo => assumption); (case h => assumption)))))
local macro_rules | `(tactic| walk_at "subscriptTail") => `(tactic| (k_here; (with_reducible show wpAny _ _ (subscriptTail _ _ (Value.ref _) (Value.str _ _)) _ _ _); k_dflt (refine' dr_itemI (knd := PySem.strKind _ _) ?N ?p ?d (strKind_is _ _ _ _) ?h ?_; (case N => k_asm); (case p => k_mem); (case d => assumption); (case h => assumption)); intro _))
local macro_rules | `(tactic| walk_at "subscriptTail") => `(tactic| (k_here; (with_reducible show wpAny _ _ (subscriptTail _ _ (Value.ref _) (Value.int _ _)) _ _ _); k_dflt (first
  | (refine' dr_itemI (knd := PySem.intKind _ _) ?N ?p ?d (intKind_is _ _ _ _) ?h ?_; (case N => k_asm); (case p => k_mem); (case d => assumption); (case h => assumption); intro _)
  | (refine' dr_itemS (knd := PySem.intKind _ _) ?N ?p ?d (intKind_is _ _ _ _) ?h ?_; (case N => k_asm); (case p => k_mem); (case d => assumption); (case h => assumption); intro _)
  | (refine' dh_itemR (knd := PySem.intKind _ _) ?F ?D ?r (intKind_is _ _ _ _) ?h ?_; (case F => k_asm); (case D => assumption); (case r => assumption); (case h => assumption); intro _ _ _ _))))
local macro_rules | `(tactic| walk_at "ite") => `(tactic| (k_here; first
  | refine ite_pos (by (simp only [beq_iff_eq, decide_eq_true_eq, Bool.not_eq_true', beq_eq_false_iff_ne, decide_eq_false_iff_not, bne_iff_ne, ne_eq, List.length_cons, List.length_nil]); omega) ?_
  | refine ite_neg (by (simp only [beq_iff_eq, decide_eq_true_eq, Bool.not_eq_true', beq_eq_false_iff_ne, decide_eq_false_iff_not, bne_iff_ne, ne_eq, List.length_cons, List.length_nil]); omega) ?_))
local macro_rules | `(tactic| walk_at "getMethod ref") => `(tactic| (k_here; (with_reducible show wpAny _ _ (getMethod (Value.ref _) (PySem.Str.ofString "clear") _) _ _ _); k_dflt (first
  | (refine' dr_clearM (knd := PySem.intKind _ _) ?N ?p ?d ?_; (case N => k_asm); (case p => k_mem); (case d => assumption))
  | (refine' dr_clearM (knd := PySem.strKind _ _) ?N ?p ?d ?_; (case N => k_asm); (case p => k_mem); (case d => assumption)))))
local macro_rules | `(tactic| walk_at "call builtin:dict.clear") => `(tactic| (k_here; k_dflt (first
  | (refine' dr_clear (knd := PySem.intKind _ _) ?F ?N ?U ?d ?z ?_; (case F => k_asm); (case N => k_asm); (case U => k_updF); (case d => assumption); (case z => assumption))
  | (refine' dr_clear (knd := PySem.strKind _ _) ?F ?N ?U ?d ?z ?_; (case F => k_asm); (case N => k_asm); (case U => k_updF); (case d => assumption); (case z => assumption))); intro h' o' F' N' hd'; (try dsimp only at N')))

structure Cr where
  f : Nat
  S : HS Str
  t : Tok
  o1 : Obj
  o2 : Obj
  o3 : Obj
  k : Nat
  tm : Tok
abbrev Cr.led (i : Ids) (c : Cr) : List (Addr × Obj) := HKP.led i c.S.rd c.t c.o1 c.o2 c.o3

set_option maxHeartbeats 8000000 in
theorem run_ok (hrow : PySem.Challenge.rw_iy0015_01 = PySem.Challenge.rw_iy0015_01) {w : World} {g : List (Int × List Str)} {loose : List Str} {mean : ExcName → Option Value} {mg mb : Str → Option Value} {A A₀ : Around} {env : Env} {outer : List Env} {base h₀ : Heap} {L : Addr} {m : Str → Option Value} {s : Shared} {i : Ids} {S : HS Str}
    (B : Below A₀ base outer h₀) (F : Fr h₀ L s.heap m) (X : (hd.heap_39 w.params).In h₀) (T : Top hd.view_39 loose mean mg mb h₀)
    (hA : A.frames = some (env :: outer)) (hf : env.frame = some L) (hke : env.scope.kind = .function) (hh : A.handled = none) (hroom : A.depth + 300 < recursionLimit)
    {t : Tok} {o1 o2 o3 : Obj} (N : News h₀ L s.heap (led i S.rd t o1 o2 o3)) (H3 : Holds3 w o1 o2 o3 S) (ky : Keyed g S) (ap : Apart i) (G : GrAt w s.heap i g)
    {k' : Nat} {S' : HS Str} (hres : hkRun g S.rd = some (S', k')) : Meth w A s i g 35 [.ref i.self] (fun v S'' => (∃ t, v = .int k' t) ∧ S'' = S') := by
    intro R ret
    obtain ⟨D1, D2, D3⟩ := id H3
    have hF : FinAt w s.heap i g S := ⟨t, o1, o2, o3, fun p hp => (N p hp).1, H3, ky⟩
    have z1 := ky.pl_len D1.nodup G.sz.1
    have z2 := ky.pr_len D2.nodup G.sz.2
    have z3 := ky.dl_len D3.nodup G.sz.1
    have hN : g.length + 2 ≤ 102 := by have := G.sz.1; omega
    unfold hkRun at hres
    generalize g.length + 2 = NN at hres hN
    revert X hrow
    w_top off
    k_fill
    intro hrow X
    obtain ⟨n1, n2, n3, n4, n5, n6, n7, n8, n9, n10, _, _, _, _, _, _⟩ := id ap
    k_dflt (
      refine' code_Z (binds := [("self", .ref i.self)]) B F X N T hA hf hke ?k6 ?k7 ?k8 ?k9 ?kB ?c5 ?c2 ?c3 ?c4 ?_
      (case k6 => k_is); (case k7 => k_is); (case k8 => omega); (case k9 => exact BindsTo.of_eq rfl); (case c5 => decide); (case kB => exact locs rfl); (case c2 => exact rfl); (case c3 => exact rfl); (case c4 => exact rfl)
      intro g' L' h' F' N' B' X' T' kp' hlt'; (try dsimp only); (try k_fold))
    have G' : GrAt w g' i g := G.keep hF ap kp'
    obtain ⟨kv, gD, gR⟩ := G'.gr
    obtain ⟨lvs, lL, lI⟩ := G'.lf
    have hA' : ∀ e, (A.deeper e).frames = some (e :: env :: outer) := fun e => by show A.frames.map _ = _; rw [hA]; rfl
    simp only [led] at N'
    k_steps
    unfold Held
    rename_i h1 p1 _ _ E1 h2 p2 _ _ E2 h3 p3 F3 N3 E3
    refine iter_Z (σ := Cs) (L := L') rfl (Cs.led i) (fun _ => []) [] ⟨⟨[], [], [], S.rd⟩, t, p1, p2, p3⟩ (fun k c => Holds3 w c.o1 c.o2 c.o3 c.S ∧ Keyed g c.S ∧ c.S.pl = [] ∧ c.S.pr = [] ∧ c.S.rd = S.rd ∧ ((g.map (·.1)).drop k).foldl (fun d l => aput d l (-1)) c.S.dl = dl0 (g.map (·.1))) ?hh lL F3 N3 ?hk ?hp ?ha ?turn ?done
    case hh => exact hh
    case hk => intro p hp; cases hp
    case hp => exact ⟨⟨E1, E2, E3⟩, ⟨by simp, by simp, by simp⟩, rfl, rfl, rfl, rfl⟩
    case ha => intro c; rfl
    case turn =>
      clear F3 N3 E1 E2 E3 D1 D2 D3 H3 ky z1 z2 z3
      rintro ⟨Z, t, o1, o2, o3⟩ k v u h tk I oI hv fresh ⟨⟨D1, D2, D3⟩, ky, e1, e2, e3, e4⟩ F' N'
      dsimp only at D1 D2 D3 ky e1 e2 e3 e4 fresh
      simp only [Cs.led, led, List.cons_append, List.nil_append] at N' fresh
      obtain ⟨f1, f2, f3, f4, f5⟩ := fresh5 fresh
      obtain ⟨l, tl, rfl, hl⟩ := ints_item lI k v hv
      have hlk : l ∈ g.map (·.1) := List.mem_of_getElem? hl
      rw [drop_cons hl, List.foldl_cons] at e4
      have z3 := ky.dl_len D3.nodup G.sz.1
      k_steps
      exact ⟨⟨{ Z with dl := aput Z.dl l (-1) }, t, o1, o2, _⟩, _, _, _, rfl, by assumption, by assumption, (fun p hp => nomatch hp), (by intro z h1 _ h3; rw [if_neg h1]; exact same_base h3), ⟨D1, D2, by assumption⟩, ⟨ky.pl, ky.pr, keys_aput ky.dl hlk⟩, e1, e2, e3, e4⟩
    case done =>
      clear F3 N3 E1 E2 E3 D1 D2 D3 H3 ky z1 z2 z3
      rintro ⟨⟨Zpl, Zpr, Zdl, Zrd⟩, t, o1, o2, o3⟩ u h tk ⟨⟨D1, D2, D3⟩, ky, e1, e2, e3, e4⟩ F' N'
      dsimp only at D1 D2 D3 ky e1 e2 e3 e4
      simp only [Cs.led, led] at N'
      have e : lvs.length = (g.map (·.1)).length := IntsAre.length lI
      rw [e, List.drop_length] at e4
      rw [List.foldl_nil] at e4
      subst e1 e2 e3 e4
      k_steps
      unfold Held
      rename_i h2 F2 N2
      refine ksw_while (σ := Cr) (L := L') (Cr.led i) (fun c => [("matchings", .int c.k c.tm)]) (fun _ => True) ["left"] (fun c => Holds3 w c.o1 c.o2 c.o3 c.S ∧ Keyed g c.S ∧ hkLoop g NN c.f c.S c.k = some (S', k')) Cr.f ⟨NN, ⟨[], [], dl0 (g.map (·.1)), S.rd⟩, t, o1, o2, o3, 0, _⟩
        F2 N2 trivial (by intro p hp; obtain rfl := List.mem_singleton.mp hp; rfl) ⟨⟨D1, D2, D3⟩, ky, hres⟩ ?turnW
      case turnW =>
      clear F2 N2 ky D1 D2 D3 hres
      rintro ⟨f, S, t, o1, o2, o3, k, tm⟩ u h tk - ⟨⟨D1, D2, D3⟩, ky, hb⟩ F' N'
      dsimp only at D1 D2 D3 ky hb
      simp only [Cr.led, led] at N'
      with_reducible show wpAny _ _ _ _ _ _
      k_fold
      cases f with
      | zero => cases hb
      | succ f =>
      unfold hkLoop at hb
      cases hq : bfs g NN S with
      | none => rw [hq] at hb; cases hb
      | some S1 =>
      rw [hq] at hb
      dsimp only at hb
      k_steps
      unfold Held
      refine meth_use (by assumption) (by assumption) (ext := []) rfl (fun p hp => nomatch hp) (fun F N => bfs_ok hrow B' F X' T' (hA' _) rfl rfl hh (by rw [depth_deeper]; omega) N ⟨D1, D2, D3⟩ ky ap (G'.stays F.keep) (by omega) hq) ?_
      rintro v S2 t2 o1' o2' o3' h2 tk2 ⟨rfl, rfl⟩ ⟨E1, E2, E3⟩ ky2 F2 N2
      simp only [led, List.append_nil] at N2
      clear D1 D2 D3
      by_cases hrd : S2.rd = -1
      · rw [if_pos hrd] at hb
        cases hb
        k_steps
        (try dsimp only)
        k_steps
        exact leaveZ_fin (ext := []) S' ret (by assumption) (by assumption) ⟨E1, E2, E3⟩ ky2 ⟨⟨_, rfl⟩, rfl⟩
      · rw [if_neg hrd] at hb
        cases hz : phase g NN (g.map (·.1)) S2 k with
        | none => rw [hz] at hb; cases hb
        | some Z =>
        obtain ⟨S3, k3⟩ := Z
        rw [hz] at hb
        dsimp only at hb
        k_steps
        unfold Held
        rename Fr g' L' h2 _ => F2
        rename News g' L' h2 _ => N2
        refine iter_Z (σ := Cr) (L := L') rfl (Cr.led i) (fun c => [("matchings", .int c.k c.tm)]) [] ⟨f, S2, t2, o1', o2', o3', k, tm⟩ (fun j c => Holds3 w c.o1 c.o2 c.o3 c.S ∧ Keyed g c.S ∧ phase g NN ((g.map (·.1)).drop j) c.S c.k = some (S3, k3)) ?hh lL F2 N2 ?hk ?hp ?ha ?turn ?done
        case hh => exact hh
        case hk => intro p hp; obtain rfl := List.mem_singleton.mp hp; rfl
        case hp => exact ⟨⟨E1, E2, E3⟩, ky2, hz⟩
        case ha => intro c; rfl
        case done =>
          clear F2 N2 E1 E2 E3 ky2 hz
          rintro ⟨_, S, t, o1, o2, o3, k, tm⟩ u h tk ⟨⟨D1, D2, D3⟩, ky, hz⟩ F' N'
          dsimp only at D1 D2 D3 ky hz
          simp only [Cr.led, led] at N'
          have e : lvs.length = (g.map (·.1)).length := IntsAre.length lI
          rw [e, List.drop_length] at hz
          unfold phase at hz
          cases hz
          k_steps
          exact ksw_end ⟨f, S3, t, o1, o2, o3, k3, tm⟩ (by assumption) (by assumption) (fun p hp => hp) trivial (by intro p hp; obtain rfl := List.mem_singleton.mp hp; rfl)
            (by
              intro z h2 h3
              have a1 := ne_stored (y0 := "left") h3 rfl
              have a2 : z ≠ "matchings" := h2 _ (List.mem_singleton.mpr rfl)
              rw [if_neg a1]
              show (if z = "matchings" then _ else _) = _
              rw [if_neg a2]
              show (if z = "matchings" then _ else _) = _
              rw [if_neg a2]
              exact same_base h3)
            ⟨⟨D1, D2, D3⟩, ky, hb⟩ (by dsimp only; omega)
        case turn =>
          clear F2 N2 E1 E2 E3 ky2 hz
          rintro ⟨_, S, t, o1, o2, o3, k, tm⟩ j v u h tk I oI hv fresh ⟨⟨D1, D2, D3⟩, ky, hz⟩ F' N'
          dsimp only at D1 D2 D3 ky hz fresh
          have hext := fresh_adr (oI := oI) fresh
          simp only [Cr.led, led, List.cons_append, List.nil_append] at N' fresh
          obtain ⟨l, tl, rfl, hl⟩ := ints_item lI j v hv
          have hlk : l ∈ g.map (·.1) := List.mem_of_getElem? hl
          rw [drop_cons hl] at hz
          unfold phase at hz
          with_reducible show wpAny _ _ _ _ _ _
          k_fold
          cases hp : aget S.pl l with
          | some r =>
            rw [hp, if_pos (by rfl)] at hz
            k_steps
            exact ⟨⟨f, S, t, o1, o2, o3, k, tm⟩, _, _, _, rfl, by assumption, by assumption, (by intro p hp; obtain rfl := List.mem_singleton.mp hp; rfl), (by intro z h1 h2 h3; rw [if_neg h1]; show (if z = "matchings" then _ else _) = _; rw [if_neg (h2 _ (List.mem_singleton.mpr rfl))]; exact same_base h3), ⟨D1, D2, D3⟩, ky, hz⟩
          | none =>
            rw [hp, if_neg (by simp)] at hz
            cases hd : dfs g NN S l with
            | none => rw [hd] at hz; cases hz
            | some X4 =>
            obtain ⟨b, S4⟩ := X4
            rw [hd] at hz
            dsimp only at hz
            k_steps
            unfold Held
            refine meth_use (by assumption) (by assumption) (ext := [(I, oI)]) rfl hext (fun F N => dfs_ok hrow w g NN B' F X' T' (hA' _) rfl rfl hh (by rw [depth_deeper]; omega) N ⟨D1, D2, D3⟩ ky ap (G'.stays F.keep) _ hd) ?_
            rintro v S5 t2 o1' o2' o3' h2 tk2 ⟨rfl, rfl⟩ ⟨E1, E2, E3⟩ ky2 F2 N2
            simp only [led, List.cons_append, List.nil_append] at N2
            cases b with
            | true =>
              rw [if_pos rfl] at hz
              k_steps
              exact ⟨⟨f, S5, t2, o1', o2', o3', k + 1, _⟩, _, _, _, rfl, by assumption, by assumption, (by intro p hp; obtain rfl := List.mem_singleton.mp hp; rfl), (by intro z h1 h2 h3; rw [if_neg (h2 _ (List.mem_singleton.mpr rfl)), if_neg h1]; show (if z = "matchings" then _ else _) = _; rw [if_neg (h2 _ (List.mem_singleton.mpr rfl))]; exact same_base h3), ⟨E1, E2, E3⟩, ky2, hz⟩
            | false =>
              rw [if_neg (by simp)] at hz
              k_steps
              exact ⟨⟨f, S5, t2, o1', o2', o3', k, tm⟩, _, _, _, rfl, by assumption, by assumption, (by intro p hp; obtain rfl := List.mem_singleton.mp hp; rfl), (by intro z h1 h2 h3; rw [if_neg h1]; show (if z = "matchings" then _ else _) = _; rw [if_neg (h2 _ (List.mem_singleton.mpr rfl))]; exact same_base h3), ⟨E1, E2, E3⟩, ky2, hz⟩
end HKP
end SHKRunW

section SHKGetW
set_option maxRecDepth 100000
namespace HKP
open PySem PySem.W PyProof.Rows PySem.Spec PySem.Calls

local macro_rules | `(tactic| walk_at "call ref") => `(tactic| (k_here; refine held_of ?_))
local macro_rules | `(tactic| walk_at "exec For") => `(tactic| (k_here; refine held_of ?_))
local macro_rules | `(tactic| walk_at "exec While") => `(tactic| (k_here; refine held_of ?_))
local macro_rules | `(tactic| walk_at "pyIter ref") => `(tactic| (k_here; refine held_of ?_))
local macro_rules | `(tactic| walk_at "setItem ref int") => `(tactic| (k_here; k_dflt (refine' dr_set (knd := PySem.intKind _ _) ?F ?N ?U ?d (intKind_is _ _ _ _) ?v ?z ?_; (case F => k_asm); (case N => k_asm); (case U => k_updF); (case d => assumption); (case z => assumption); (case v => exact ⟨_, rfl⟩)); intro h' o' F' N' hd'; (try dsimp only at N')))
local macro_rules | `(tactic| walk_at "setItem ref str") => `(tactic| (k_here; k_dflt (refine' dr_set (knd := PySem.strKind _ _) ?F ?N ?U ?d (strKind_is _ _ _ _) ?v ?z ?_; (case F => k_asm); (case N => k_asm); (case U => k_updF); (case d => assumption); (case z => assumption); (case v => exact ⟨_, rfl⟩)); intro h' o' F' N' hd'; (try dsimp only at N')))
local macro_rules | `(tactic| walk_at "compareOp NotIn str ref") => `(tactic| (k_here; k_dflt (first
  | (refine' dr_notin_t (knd := PySem.strKind _ _) ?N ?p ?d ?lo (strKind_is _ _ _ _) ?h ?_; (case N => k_asm); (case p => k_mem); (case d => assumption); (case lo => assumption); (case h => assumption))
  | (refine' dr_notin_f (knd := PySem.strKind _ _) ?N ?p ?d ?lo (strKind_is _ _ _ _) ?h ?_; (case N => k_asm); (case p => k_mem); (case d => assumption); (case lo => assumption); (case h => assumption)))))
local macro_rules | `(tactic| walk_at "compareOp NotIn int ref") => `(tactic| (k_here; k_dflt (first
  | (refine' dr_notin_t (knd := PySem.intKind _ _) ?N ?p ?d ?lo (intKind_is _ _ _ _) ?h ?_; (case N => k_asm); (case p => k_mem); (case d => assumption); (case lo => assumption); (case h => assumption))
  | (refine' dr_notin_f (knd := PySem.intKind _ _) ?N ?p ?d ?lo (intKind_is _ _ _ _) ?h ?_; (case N => k_asm); (case p => k_mem); (case d => assumption); (case lo => assumption); (case h => assumption)))))
local macro_rules | `(tactic| walk_at "compareOp In int ref") => `(tactic| (k_here; k_dflt (first
  | (refine' dr_in_t (knd := PySem.intKind _ _) ?N ?p ?d ?lo (intKind_is _ _ _ _) ?h ?_; (case N => k_asm); (case p => k_mem); (case d => assumption); (case lo => assumption); (case h => assumption))
  | (refine' dr_in_f (knd := PySem.intKind _ _) ?N ?p ?d ?lo (intKind_is _ _ _ _) ?h ?_; (case N => k_asm); (case p => k_mem); (case d => assumption); (case lo => assumption); (case h => assumption)))))
local macro_rules | `(tactic| walk_at "subscriptTail") => `(tactic| (k_here; (with_reducible show wpAny _ _ (subscriptTail _ _ (Value.ref _) (Value.str _ _)) _ _ _); k_dflt (refine' dr_itemI (knd := PySem.strKind _ _) ?N ?p ?d (strKind_is _ _ _ _) ?h ?_; (case N => k_asm); (case p => k_mem); (case d => assumption); (case h => assumption)); intro _))
local macro_rules | `(tactic| walk_at "subscriptTail") => `(tactic| (k_here; (with_reducible show wpAny _ _ (subscriptTail _ _ (Value.ref _) (Value.int _ _)) _ _ _); k_dflt (first
  | (refine' dr_itemI (knd := PySem.intKind _ _) ?N ?p ?d (intKind_is _ _ _ _) ?h ?_; (case N => k_asm); (case p => k_mem); (case d => assumption); (case h => assumption); intro _)
  | (refine' dr_itemS (knd := PySem.intKind _ _) ?N ?p ?d (intKind_is _ _ _ _) ?h ?_; (case N => k_asm); (case p => k_mem); (case d => assumption); (case h => assumption); intro _)
  | (refine' dh_itemR (knd := PySem.intKind _ _) ?F ?D ?r (intKind_is _ _ _ _) ?h ?_; (case F => k_asm); (case D => assumption); (case r => assumption); (case h => assumption); intro _ _ _ _))))
local macro_rules | `(tactic| walk_at "ite") => `(tactic| (k_here; first
  | refine ite_pos (by (simp only [beq_iff_eq, decide_eq_true_eq, Bool.not_eq_true', beq_eq_false_iff_ne, decide_eq_false_iff_not, bne_iff_ne, ne_eq, List.length_cons, List.length_nil]); omega) ?_
  | refine ite_neg (by (simp only [beq_iff_eq, decide_eq_true_eq, Bool.not_eq_true', beq_eq_false_iff_ne, decide_eq_false_iff_not, bne_iff_ne, ne_eq, List.length_cons, List.length_nil]); omega) ?_))
local macro_rules | `(tactic| walk_at "assign Tuple") => `(tactic| (k_here; (with_reducible show wpAny _ _ (assign (Expr.Tuple _ _ _) _ (Value.ref _)) _ _ _); k_dflt (refine' unpackN_ ?k1 ?k2 ?k3 ?k4 ?k5 ?k6 ?_; (case k1 => k_asm); (case k2 => k_asm); (case k3 => exact News.isTup (by k_asm) (by k_mem)); (case k4 => first | exact rfl | assumption); (case k5 => exact rfl); (case k6 => exact rfl)); intro h' F' N'))

abbrev tupObj (vs : List Value) : Obj := { cls := .type "tuple", data := .seq vs.toArray }

def MethT (w : World) (A : Around) (s : Shared) (i : Ids) (g : List (Int × List Str)) (f : Addr) (args : List Value) (k : Nat) (S' : HS Str) : Prop :=
  ∀ R : Result → Shared → Prop, (∀ a t h' tk, FinAt w h' i g S' → (∀ b o, s.heap.get? b = some o → b ∉ i.adr → h'.get? b = some o) → h'.get? a = some (tupObj [.int k t, .ref i.pl]) → s.heap.get? a = none → a ∉ i.adr →
      R (.ok (.ret (.ref a))) { s with heap := h', toks := tk }) →
    codeAny (model PySem.Challenge.rw_iy0015_01.row.prog w) A (.call (.ref f) ⟨args, []⟩) R s

theorem methT_use {w : World} {A : Around} {s : Shared} {i : Ids} {g : List (Int × List Str)} {f : Addr} {args : List Value} {k : Nat} {S' : HS Str} {Q E : Value → Shared → Prop}
    {h₀ : Heap} {L : Addr} {m : Str → Option Value} {ext news : List (Addr × Obj)} {rd : Int} {t : Tok} {o1 o2 o3 : Obj}
    (F : Fr h₀ L s.heap m) (N : News h₀ L s.heap news) (hn : news = led i rd t o1 o2 o3 ++ ext) (hext : ∀ p ∈ ext, p.1 ∉ i.adr) (M : Fr h₀ L s.heap m → News h₀ L s.heap (led i rd t o1 o2 o3) → MethT w A s i g f args k S')
    (ret : ∀ a tk0 t' o1' o2' o3' h' tk, Holds3 w o1' o2' o3' S' → Keyed g S' → Fr h₀ L h' m → News h₀ L h' ((a, tupObj [.int k tk0, .ref i.pl]) :: (led i S'.rd t' o1' o2' o3' ++ ext)) → (∀ p ∈ led i S'.rd t' o1' o2' o3' ++ ext, p.1 ≠ a) → Q (.ref a) { s with heap := h', toks := tk }) :
    wpAny (model PySem.Challenge.rw_iy0015_01.row.prog w) A (call (.ref f) args) Q E s := by
  subst hn
  refine wpAny_call (M F (fun p hp => N p (List.mem_append_left _ hp)) _ ?_)
  rintro a tk0 h' tk ⟨t', o1', o2', o3', hl, h3, hk⟩ fr ha hs hna
  have hadr : ∀ b ∈ i.adr, b ≠ L ∧ h₀.get? b = none := by
    intro b hb
    have : ∃ o, (b, o) ∈ led i rd t o1 o2 o3 := by
      simp only [Ids.adr, List.mem_cons, List.not_mem_nil, or_false] at hb
      rcases hb with rfl | rfl | rfl | rfl | rfl
      · exact ⟨_, List.Mem.head _⟩
      · exact ⟨_, List.Mem.tail _ (List.Mem.head _)⟩
      · exact ⟨_, List.Mem.tail _ (List.Mem.tail _ (List.Mem.head _))⟩
      · exact ⟨_, List.Mem.tail _ (List.Mem.tail _ (List.Mem.tail _ (List.Mem.head _)))⟩
      · exact ⟨_, List.Mem.tail _ (List.Mem.tail _ (List.Mem.tail _ (List.Mem.tail _ (List.Mem.head _))))⟩
    obtain ⟨o, ho⟩ := this
    exact (N _ (List.mem_append_left _ ho)).2
  have F' := fr_frame F fr (fun hL => (hadr L hL).1 rfl) fun b hb => (hadr b hb).2
  have haL : a ≠ L := by
    rintro rfl
    obtain ⟨oL, es, ep, e, r⟩ := F.ns
    rw [hs] at e; cases e
  have ha0 : h₀.get? a = none := by
    cases q : h₀.get? a with
    | none => rfl
    | some o => have := F.keep a o q; rw [hs] at this; cases this
  have main : ∀ p ∈ led i S'.rd t' o1' o2' o3' ++ ext, (h'.get? p.1 = some p.2 ∧ p.1 ≠ L ∧ h₀.get? p.1 = none) ∧ p.1 ≠ a := by
    intro p hp
    rcases List.mem_append.mp hp with h | h
    · have : p.1 ∈ i.adr := List.mem_map.mpr ⟨p, h, rfl⟩
      exact ⟨⟨hl p h, hadr p.1 this⟩, fun e => hna (e ▸ this)⟩
    · have := N p (List.mem_append_right _ h)
      exact ⟨⟨fr _ _ this.1 (hext p h), this.2⟩, fun e => by have q := this.1; rw [e, hs] at q; cases q⟩
  refine ret a tk0 t' o1' o2' o3' h' tk h3 hk F' (fun p hp => ?_) fun p hp => (main p hp).2
  rcases List.mem_cons.mp hp with rfl | h
  · exact ⟨ha, haL, ha0⟩
  · exact (main p h).1

set_option maxHeartbeats 8000000 in
theorem getnum_ok (hrow : PySem.Challenge.rw_iy0015_01 = PySem.Challenge.rw_iy0015_01) {w : World} {g : List (Int × List Str)} {loose : List Str} {mean : ExcName → Option Value} {mg mb : Str → Option Value} {A A₀ : Around} {env : Env} {outer : List Env} {base h₀ : Heap} {L : Addr} {m : Str → Option Value} {s : Shared} {i : Ids} {S : HS Str}
    (B : Below A₀ base outer h₀) (F : Fr h₀ L s.heap m) (X : (hd.heap_39 w.params).In h₀) (T : Top hd.view_39 loose mean mg mb h₀)
    (hA : A.frames = some (env :: outer)) (hf : env.frame = some L) (hke : env.scope.kind = .function) (hh : A.handled = none) (hroom : A.depth + 301 < recursionLimit)
    {t : Tok} {o1 o2 o3 : Obj} (N : News h₀ L s.heap (led i S.rd t o1 o2 o3)) (H3 : Holds3 w o1 o2 o3 S) (ky : Keyed g S) (ap : Apart i) (G : GrAt w s.heap i g)
    {k' : Nat} {S' : HS Str} (hres : hkRun g S.rd = some (S', k')) : MethT w A s i g 49 [.ref i.self] k' S' := by
    intro R ret
    have hF : FinAt w s.heap i g S := ⟨t, o1, o2, o3, fun p hp => (N p hp).1, H3, ky⟩
    revert X hrow
    w_top off
    k_fill
    intro hrow X
    k_dflt (
      refine' code_Z (binds := [("self", .ref i.self)]) B F X N T hA hf hke ?k6 ?k7 ?k8 ?k9 ?kB ?c5 ?c2 ?c3 ?c4 ?_
      (case k6 => k_is); (case k7 => k_is); (case k8 => omega); (case k9 => exact BindsTo.of_eq rfl); (case c5 => decide); (case kB => exact locs rfl); (case c2 => exact rfl); (case c3 => exact rfl); (case c4 => exact rfl)
      intro g' L' h' F' N' B' X' T' kp' hlt'; (try dsimp only); (try k_fold))
    have G' : GrAt w g' i g := G.keep hF ap kp'
    have hA' : ∀ e, (A.deeper e).frames = some (e :: env :: outer) := fun e => by show A.frames.map _ = _; rw [hA]; rfl
    simp only [led] at N'
    k_steps
    unfold Held
    refine meth_use (by assumption) (by assumption) (ext := []) rfl (fun p hp => nomatch hp) (fun F N => run_ok hrow B' F X' T' (hA' _) rfl rfl hh (by rw [depth_deeper]; omega) N H3 ky ap (G'.stays F.keep) hres) ?_
    rintro v S2 t2 o1' o2' o3' h2 tk2 ⟨⟨tv, rfl⟩, rfl⟩ E ky2 F2 N2
    simp only [led, List.append_nil] at N2
    k_steps
    rename_i h3 a h4 F3 N3 l1
    have hna : a ∉ i.adr := by
      simp only [Ids.adr, List.mem_cons, List.not_mem_nil, or_false]
      obtain ⟨q1, q2, q3, q4, q5⟩ := l1
      rintro (e | e | e | e | e)
      · exact Nat.lt_irrefl _ (e ▸ q1)
      · exact Nat.lt_irrefl _ (e ▸ q2)
      · exact Nat.lt_irrefl _ (e ▸ q3)
      · exact Nat.lt_irrefl _ (e ▸ q4)
      · exact Nat.lt_irrefl _ (e ▸ q5)
    refine ⟨_, _, F3, fun fr => ret a tv h4 _ ⟨t2, o1', o2', o3', fun p hp => (N3 p (List.mem_cons_of_mem _ hp)).1, E, ky2⟩ fr (N3 _ (List.Mem.head _)).1 ?_ hna⟩
    cases q : s.heap.get? a with
    | none => rfl
    | some o =>
      have h1 := kp' a o q hna
      have h2 := (N3 _ (List.Mem.head _)).2.2
      dsimp only at h2
      rw [h1] at h2; cases h2

set_option maxHeartbeats 8000000 in
theorem get_ok (hrow : PySem.Challenge.rw_iy0015_01 = PySem.Challenge.rw_iy0015_01) {w : World} {g : List (Int × List Str)} {loose : List Str} {mean : ExcName → Option Value} {mg mb : Str → Option Value} {A A₀ : Around} {env : Env} {outer : List Env} {base h₀ : Heap} {L : Addr} {m : Str → Option Value} {s : Shared} {i : Ids} {S : HS Str}
    (B : Below A₀ base outer h₀) (F : Fr h₀ L s.heap m) (X : (hd.heap_39 w.params).In h₀) (T : Top hd.view_39 loose mean mg mb h₀)
    (hA : A.frames = some (env :: outer)) (hf : env.frame = some L) (hke : env.scope.kind = .function) (hh : A.handled = none) (hroom : A.depth + 302 < recursionLimit)
    {t : Tok} {o1 o2 o3 : Obj} (N : News h₀ L s.heap (led i S.rd t o1 o2 o3)) (H3 : Holds3 w o1 o2 o3 S) (ky : Keyed g S) (ap : Apart i) (G : GrAt w s.heap i g)
    {k' : Nat} {S' : HS Str} (hres : hkRun g S.rd = some (S', k')) : Meth w A s i g 42 [.ref i.self] (fun v S'' => v = .ref i.pl ∧ S'' = S') := by
    intro R ret
    have hF : FinAt w s.heap i g S := ⟨t, o1, o2, o3, fun p hp => (N p hp).1, H3, ky⟩
    revert X hrow
    w_top off
    k_fill
    intro hrow X
    k_dflt (
      refine' code_Z (binds := [("self", .ref i.self)]) B F X N T hA hf hke ?k6 ?k7 ?k8 ?k9 ?kB ?c5 ?c2 ?c3 ?c4 ?_
      (case k6 => k_is); (case k7 => k_is); (case k8 => omega); (case k9 => exact BindsTo.of_eq rfl); (case c5 => decide); (case kB => exact locs rfl); (case c2 => exact rfl); (case c3 => exact rfl); (case c4 => exact rfl)
      intro g' L' h' F' N' B' X' T' kp' hlt'; (try dsimp only); (try k_fold))
    have G' : GrAt w g' i g := G.keep hF ap kp'
    have hA' : ∀ e, (A.deeper e).frames = some (e :: env :: outer) := fun e => by show A.frames.map _ = _; rw [hA]; rfl
    simp only [led] at N'
    k_steps
    unfold Held
    refine methT_use (by assumption) (by assumption) (ext := []) rfl (fun p hp => nomatch hp) (fun F N => getnum_ok hrow B' F X' T' (hA' _) rfl rfl hh (by rw [depth_deeper]; omega) N H3 ky ap (G'.stays F.keep) hres) ?_
    rintro a tv t2 o1' o2' o3' h2 tk2 E ky2 F2 N2 hap
    simp only [led, List.append_nil] at N2
    k_steps
    exact leaveZ_mem S' ret (by assumption) (by assumption) (fun p hp => List.mem_cons_of_mem _ hp) E ky2 ⟨rfl, rfl⟩
end HKP
end SHKGetW

section SHKComp
set_option maxRecDepth 100000
set_option maxHeartbeats 2000000
namespace HKP
open PySem PySem.W PyProof.Rows PySem.Spec PySem.Calls PyProof.Rows.LCg PyProof.Rows.LCt PyProof.Rows.LCp

/-! list comprehensions whose iterable is a dict of the ledger (its keys) -/
section compd
variable {prog : Program} {w : World} {K : Type} [DecidableEq K] {knd : PySem.KeyKind prog w K} {A : Around} {E : Value → Shared → Prop} {s : Shared} {h₀ : Heap} {L : Addr} {m : Str → Option Value} {env : Env}

/-- where a comprehension over the keys of the dict d begins: what its block asks of the heap h with the iterator pushed -/
structure KeyAt {prog : Program} {w : World} {K : Type} [DecidableEq K] (knd : PySem.KeyKind prog w K) (h₀ : Heap) (L : Addr) (m : Str → Option Value) (d : Addr) (o : Obj) (kvs : List (K × Value)) (ep : Nat) (news : List (Addr × Obj)) (I : Addr) (h : Heap) : Prop where
  ne : @Ne Nat d I
  keep : ∀ j (a b : Heap) (q : Obj) (nw : List (Addr × Obj)), (a.IsKeyIter I d j kvs.length ep ∧ a.DictAt knd d kvs ep) → a.get? I = some q → b.get? I = some q → (∀ x o, h₀.get? x = some o → b.get? x = some o) → News h₀ L b nw → (d, o) ∈ nw → (b.IsKeyIter I d j kvs.length ep ∧ b.DictAt knd d kvs ep)
  st : h.IsKeyIter I d 0 kvs.length ep ∧ h.DictAt knd d kvs ep
  low : ∀ x ∈ [I, d], x < h.objs.size
  F : Fr h₀ L h m
  N : News h₀ L h news
  LI : @Ne Nat L I
  new : h₀.get? I = none
  off : ∀ p ∈ news, p.1 ≠ I

theorem key_start {news : List (Addr × Obj)} {d : Addr} {o : Obj} {kvs : List (K × Value)} (F : Fr h₀ L s.heap m) (N : News h₀ L s.heap news) (hm : (d, o) ∈ news) (hd : o.IsDictOf knd kvs) :
    ∃ ep, s.heap.DictAt knd d kvs ep ∧ KeyAt knd h₀ L m d o kvs ep news s.heap.objs.size (s.heap.push { cls := .type "dict_keyiterator", data := .fields #[.ref d, .int 0 0, .int kvs.length 0, .int ep 0] }) := by
  obtain ⟨es, ep, exact_, data_, keys_, pairs_, nodup_⟩ := hd
  have look : ∀ {a : Heap} {nw : List (Addr × Obj)}, News h₀ L a nw → (d, o) ∈ nw → a.DictAt knd d kvs ep := fun n i => ⟨o, es, (n _ i).1, exact_, data_, keys_, pairs_, nodup_⟩
  have dlt : @LT.lt Nat _ d s.heap.objs.size := (look N hm).lt_size
  have grown : ∀ {p : Obj} (x : Addr) (q : Obj), s.heap.get? x = some q → (s.heap.push p).get? x = some q := fun _ _ e => Heap.get?_push_of_some _ e
  refine ⟨ep, look N hm, Nat.ne_of_lt dlt, ?_, ⟨⟨_, Heap.get?_push_size _ rfl, rfl, rfl⟩, (look N hm).push _⟩, ?_, F.keeps grown, N.grown grown, Nat.ne_of_lt F.ns.lt, next_is_new F, fun p hp => Nat.ne_of_lt (Heap.lt_size (N p hp).1)⟩
  · rintro j a b q nw ⟨⟨q', at_, rest⟩, -⟩ ea eb - n i
    obtain rfl : q' = q := Option.some.inj (at_.symm.trans ea)
    exact ⟨⟨q', eb, rest⟩, look n i⟩
  · intro x hx
    rw [Heap.size_push]
    simp only [List.mem_cons, List.not_mem_nil, or_false] at hx
    have dlt' : (d : Nat) < s.heap.objs.size := dlt
    rcases hx with e | e
    · rw [e]; exact Nat.lt_add_one _
    · rw [e]; exact Nat.lt_trans dlt' (Nat.lt_add_one _)

/-- what a comprehension leaves: its list D ahead of the ledger, its own namespace C apart -/
structure Left (h₀ : Heap) (L : Addr) (m : Str → Option Value) (D C : Addr) (h : Heap) (ys : List Value) (nw : List (Addr × Obj)) : Prop where
  F : Fr h₀ L h m
  N : News h₀ L h ((D, lst ys) :: nw)
  off : Off1 D nw
  ns : ∃ mc, h.Ns C mc
  c0 : h₀.get? C = none
  cL : C ≠ L
  cn : ∀ p ∈ (D, lst ys) :: nw, p.1 ≠ C
theorem Left.of {D C : Addr} {h : Heap} {mc : Str → Option Value} {ys : List Value} {nw : List (Addr × Obj)} (F : Fr h₀ L h m) (N : News h₀ L h ((D, lst ys) :: nw)) (off : Off1 D nw) (ns : h.Ns C mc) (c0 : h₀.get? C = none) (cL : C ≠ L) (cD : C ≠ D) (cn : ∀ p ∈ nw, p.1 ≠ C) : Left h₀ L m D C h ys nw :=
  ⟨F, N, off, ⟨mc, ns⟩, c0, cL, List.forall_mem_cons.mpr ⟨fun e => cD e.symm, cn⟩⟩
theorem Left.gone {D C : Addr} {h h' : Heap} {ys : List Value} {nw : List (Addr × Obj)} (H : Left h₀ L m D C h ys nw) (ch : Heap.SameBut C h h') : Fr h₀ L h' m ∧ News h₀ L h' ((D, lst ys) :: nw) :=
  ⟨H.F.change ch H.cL H.c0, fun p hp => ⟨(ch.2 _ (H.cn p hp)).trans (H.N p hp).1, (H.N p hp).2⟩⟩
theorem Left.told {M : Model} {D C : Addr} {h : Heap} {tk : Nat} {ys : List Value} {nw : List (Addr × Obj)} {Q : Value → Shared → Prop} (H : Left h₀ L m D C h ys nw) (fin : FinE h₀ L m s Q ys nw) : compPost M A E none Q (.ref D) C (.ok .next) { s with heap := h, toks := tk } := by
  obtain ⟨mc, ns⟩ := H.ns
  exact ⟨mc, ns, fun h' ch => fin D h' tk (H.gone ch).1 (H.gone ch).2 H.off⟩
theorem Left.store {D C : Addr} {h h' : Heap} {y : Str} {ys : List Value} {nw : List (Addr × Obj)} (H : Left h₀ L m D C h ys nw) (ns' : h'.Ns L (fun z => if z = y then some (.ref D) else m z)) (ch : Heap.SameBut L h h') : Left h₀ L (fun z => if z = y then some (.ref D) else m z) D C h' ys nw := by
  obtain ⟨mc, ns⟩ := H.ns
  refine ⟨⟨ns', fun b o e => (ch.2 b ?_).trans (H.F.keep b o e), H.F.above⟩, fun p hp => ⟨(ch.2 _ (H.N p hp).2.1).trans (H.N p hp).1, (H.N p hp).2⟩, H.off, ⟨mc, ns.sameBut ch H.cL⟩, H.c0, H.cL, H.cn⟩
  intro e'
  rw [e', Heap.get?_none_of_le H.F.above] at e
  cases e
theorem Left.kept {D C : Addr} {h : Heap} {tk : Nat} {y : Str} {py : Pos} {ys : List Value} {nw : List (Addr × Obj)} {Q : Flow → Shared → Prop} (H : Left h₀ env.locals m D C h ys nw) (hy : env.kindOf y = some .local) (hpm : (env.scope.kind == .class || (env.scope.kind == .module && env.locals != env.globals)) = false)
    (fin : FinA h₀ env.locals m s y Q ys nw) : compPost (model prog w) A E (some (assign (.Name y py) env)) (fun _ s' => Q .next s') (.ref D) C (.ok .next) { s with heap := h, toks := tk } := by
  refine wpAny_assign_Name (wpAny_storeName_local hy H.F.ns (fun h2 ns2 ch => ?_) hpm)
  have H2 := H.store ns2 ch
  obtain ⟨mc, ns⟩ := H2.ns
  exact ⟨mc, ns, fun h' ch' => fin D h' _ (H2.gone ch').1 (H2.gone ch').2 H2.off⟩

def SrcD (prog : Program) (w : World) (K : Type) [DecidableEq K] (knd : PySem.KeyKind prog w K) (A : Around) (h₀ : Heap) (L : Addr) (m : Str → Option Value) (env : Env) (elt : Expr) (x : Str) (scope : Scope) (cl : List (Str × Addr)) (Fin : Shared → List Value → List (Addr × Obj) → Prop) (xv : Value) (s₁ : Shared) : Prop :=
  ∃ d o kvs news, xv = .ref d ∧ (d == sysModules) = false ∧ A.handled = none ∧ Fr h₀ L s₁.heap m ∧ News h₀ L s₁.heap news ∧ (d, o) ∈ news ∧ o.IsDictOf knd kvs ∧ kvs.length ≤ sizeLine ∧
    ∀ s₂ : Shared, (∃ h, s₂ = { s₁ with heap := h }) → CompRest prog w A h₀ L m env elt x scope cl s₂ (fun nw => (d, o) ∈ nw) (fun i v => ∃ k x, kvs[i]? = some (k, x) ∧ knd.is k v = true) (Fin s₂) kvs.length 0 [] news
def SrcDT (prog : Program) (w : World) (K : Type) [DecidableEq K] (knd : PySem.KeyKind prog w K) (A : Around) (h₀ : Heap) (L : Addr) (m : Str → Option Value) (env : Env) (ct elt : Expr) (x : Str) (scope : Scope) (cl : List (Str × Addr)) (Fin : Shared → List Value → List (Addr × Obj) → Prop) (xv : Value) (s₁ : Shared) : Prop :=
  ∃ d o kvs news, xv = .ref d ∧ (d == sysModules) = false ∧ A.handled = none ∧ Fr h₀ L s₁.heap m ∧ News h₀ L s₁.heap news ∧ (d, o) ∈ news ∧ o.IsDictOf knd kvs ∧ kvs.length ≤ sizeLine ∧
    ∀ s₂ : Shared, (∃ h, s₂ = { s₁ with heap := h }) → CompRestT prog w A h₀ L m env ct elt x scope cl s₂ (fun nw => (d, o) ∈ nw) (fun i v => ∃ k x, kvs[i]? = some (k, x) ∧ knd.is k v = true) (Fin s₂) kvs.length 0 [] news

theorem ListComp_D {elt iter : Expr} {x : Str} {px : Pos} {scope : Scope} {cl : List (Str × Addr)} {pos : Pos} {Q : Value → Shared → Prop} (_ : Fr h₀ L s.heap m)
    (hclos : closureFor scope env = pure cl) (hcell : ∀ z ∈ scope.names, z.2 ≠ .cell) (hkind : scope.kind = .function) (hnames : ∀ z ∈ scope.names, z.2 = .local → scope.names.lookup z.1 = some .local) (hx : scope.names.lookup x = some .local)
    (h : wpAny (model prog w) A (eval iter env) (SrcD prog w K knd A h₀ L m env elt x scope cl (fun s₂ => FinE h₀ L m s₂ Q)) E s) (hs : ∀ v, foldedSetIterable iter env v = pure v := by intro _; rfl) :
    wpAny (model prog w) A (eval (.ListComp elt [⟨.Name x px, iter, [], 0⟩] scope pos) env) Q E s := by
  rw [eval_ListComp]
  refine wpAny_comprehension_free (use := none) rfl hs hclos hkind hnames (wpAny_mono h (fun v s₁ src => ?_) fun _ _ e => e)
  obtain ⟨d, o, kvs, news, rfl, lo, hh, F, N, hm, hd, hsz, R⟩ := src
  obtain ⟨ep, hD, B⟩ := key_start F N hm hd
  exact wpAny_pyIter_dict lo hD (block_U (Walks.dictKeys hh _ d B.ne kvs ep) hsz (fun _ _ ⟨⟨q, e, _⟩, _⟩ => ⟨q, e⟩) B.keep hcell hkind hx B.st B.low B.F B.N B.LI B.new B.off hm (R _ ⟨_, rfl⟩)
    fun D C h' tk m' ys nw F' N' o1 hn c0 _ cL _ cD oc fin => (Left.of F' N' o1 hn c0 cL cD oc).told fin)

/-- «y = [.. for .. in ..]»: the list is stored before the comprehension's namespace goes -/
theorem asg_comp {elt tg iter : Expr} {ifs : List Expr} {y : Str} {py : Pos} {scope : Scope} {cl : List (Str × Addr)} {pos spos : Pos} {Q : Flow → Shared → Prop}
    (hsw : swapsWith (.ListComp elt [⟨tg, iter, ifs, 0⟩] scope pos) (some (.Name y py)) spos.line env = pure true) (hclos : closureFor scope env = pure cl) (hkind : scope.kind = .function) (hnames : ∀ z ∈ scope.names, z.2 = .local → scope.names.lookup z.1 = some .local) (hs : ∀ v, foldedSetIterable iter env v = pure v)
    (h : wpAny (model prog w) A (eval iter env) (fun v s₁ => wpAny (model prog w) A (pyIter v) (fun it s₂ => wpAny (model prog w) A (newList []) (fun acc s₃ => wpAny (model prog w) A (newFunctionEnv scope env.globals cl [] env.qual none .none (some env)) (fun cenv s₄ =>
      codeAny (model prog w) A (.compStart (.ListComp elt [⟨tg, iter, ifs, 0⟩] scope pos) 0 it acc { cenv with scope := relabel scope env }) (compPost (model prog w) A E (some (assign (.Name y py) env)) (fun _ s' => Q .next s') acc cenv.locals) s₄) E s₃) E s₂) E s₁) E s) :
    wpAny (model prog w) A (exec (.Assign [.Name y py] (.ListComp elt [⟨tg, iter, ifs, 0⟩] scope pos) spos) env) Q E s := by
  rw [exec_Assign_Name_used _ _ _ _ hsw]
  refine wpAny_bind (wpAny_standAt (wpAny_bind ?_))
  show wpAny _ A (comprehension (.ListComp elt [⟨tg, iter, ifs, 0⟩] scope pos) scope env _ (newList []) false (eval iter env) (some (assign (.Name y py) env)) >>= fun _ => _) _ _ s
  exact wpAny_bind (wpAny_mono (wpAny_comprehension_free rfl hs hclos hkind hnames h) (fun _ _ q => wpAny_pure (wpAny_pure q)) fun _ _ e => e)

theorem Assign_ListComp_D {elt iter : Expr} {x y : Str} {px py : Pos} {scope : Scope} {cl : List (Str × Addr)} {pos spos : Pos} {Q : Flow → Shared → Prop} (_ : Fr h₀ L s.heap m) (hLe : env.locals = L)
    (hsw : swapsWith (.ListComp elt [⟨.Name x px, iter, [], 0⟩] scope pos) (some (.Name y py)) spos.line env = pure true)
    (hclos : closureFor scope env = pure cl) (hcell : ∀ z ∈ scope.names, z.2 ≠ .cell) (hkind : scope.kind = .function) (hnames : ∀ z ∈ scope.names, z.2 = .local → scope.names.lookup z.1 = some .local) (hx : scope.names.lookup x = some .local)
    (hy : env.kindOf y = some .local) (hpm : (env.scope.kind == .class || (env.scope.kind == .module && env.locals != env.globals)) = false)
    (h : wpAny (model prog w) A (eval iter env) (SrcD prog w K knd A h₀ L m env elt x scope cl (fun s₂ => FinA h₀ L m s₂ y Q)) E s) (hs : ∀ v, foldedSetIterable iter env v = pure v := by intro _; rfl) :
    wpAny (model prog w) A (exec (.Assign [.Name y py] (.ListComp elt [⟨.Name x px, iter, [], 0⟩] scope pos) spos) env) Q E s := by
  subst hLe
  refine asg_comp hsw hclos hkind hnames hs (wpAny_mono h (fun v s₁ src => ?_) fun _ _ e => e)
  obtain ⟨d, o, kvs, news, rfl, lo, hh, F, N, hm, hd, hsz, R⟩ := src
  obtain ⟨ep, hD, B⟩ := key_start F N hm hd
  exact wpAny_pyIter_dict lo hD (block_U (Walks.dictKeys hh _ d B.ne kvs ep) hsz (fun _ _ ⟨⟨q, e, _⟩, _⟩ => ⟨q, e⟩) B.keep hcell hkind hx B.st B.low B.F B.N B.LI B.new B.off hm (R _ ⟨_, rfl⟩)
    fun D C h' tk m' ys nw F' N' o1 hn c0 _ cL _ cD oc fin => (Left.of F' N' o1 hn c0 cL cD oc).kept hy hpm fin)

theorem Assign_ListComp_DT {ct elt iter : Expr} {x y : Str} {px py : Pos} {scope : Scope} {cl : List (Str × Addr)} {pos spos : Pos} {Q : Flow → Shared → Prop} (_ : Fr h₀ L s.heap m) (hLe : env.locals = L)
    (hsw : swapsWith (.ListComp elt [⟨.Name x px, iter, [ct], 0⟩] scope pos) (some (.Name y py)) spos.line env = pure true)
    (hclos : closureFor scope env = pure cl) (hcell : ∀ z ∈ scope.names, z.2 ≠ .cell) (hkind : scope.kind = .function) (hnames : ∀ z ∈ scope.names, z.2 = .local → scope.names.lookup z.1 = some .local) (hx : scope.names.lookup x = some .local)
    (hy : env.kindOf y = some .local) (hpm : (env.scope.kind == .class || (env.scope.kind == .module && env.locals != env.globals)) = false)
    (h : wpAny (model prog w) A (eval iter env) (SrcDT prog w K knd A h₀ L m env ct elt x scope cl (fun s₂ => FinA h₀ L m s₂ y Q)) E s) (hs : ∀ v, foldedSetIterable iter env v = pure v := by intro _; rfl) :
    wpAny (model prog w) A (exec (.Assign [.Name y py] (.ListComp elt [⟨.Name x px, iter, [ct], 0⟩] scope pos) spos) env) Q E s := by
  subst hLe
  refine asg_comp hsw hclos hkind hnames hs (wpAny_mono h (fun v s₁ src => ?_) fun _ _ e => e)
  obtain ⟨d, o, kvs, news, rfl, lo, hh, F, N, hm, hd, hsz, R⟩ := src
  obtain ⟨ep, hD, B⟩ := key_start F N hm hd
  exact wpAny_pyIter_dict lo hD (block_T (Walks.dictKeys hh _ d B.ne kvs ep) hsz (fun _ _ ⟨⟨q, e, _⟩, _⟩ => ⟨q, e⟩) B.keep hcell hkind hx B.st B.low B.F B.N B.LI B.new B.off hm (R _ ⟨_, rfl⟩)
    fun D C h' tk m' ys nw F' N' o1 hn c0 _ cL _ cD oc fin => (Left.of F' N' o1 hn c0 cL cD oc).kept hy hpm fin)
end compd

/-! the turns of a comprehension by an invariant -/
section ind
variable {prog : Program} {w : World} {A : Around} {h₀ : Heap} {L : Addr} {m : Str → Option Value} {env : Env} {s : Shared}
theorem compEnd_mono {s₁ s₂ : Shared} {I C D : Addr} {oI oC oD : Obj} {S : List (Addr × Obj) → Prop} {r r' : Value → List (Addr × Obj) → Prop} {y : Value} (h : CompEnd h₀ L m s₁ I oI C oC D oD S r y s₂) (hm : ∀ nw, r y nw → r' y nw) : CompEnd h₀ L m s₁ I oI C oC D oD S r' y s₂ := by
  obtain ⟨h', tk, nw, a, b, c, d, e, f⟩ := h
  exact ⟨h', tk, nw, a, b, c, d, e, hm _ f⟩

theorem rest_U {elt : Expr} {x : Str} {scope : Scope} {cl : List (Str × Addr)} {S : List (Addr × Obj) → Prop} {P : Nat → Value → Prop} {Fin : List Value → List (Addr × Obj) → Prop} {n : Nat} (J : Nat → List Value → List (Addr × Obj) → Prop)
    (turn : ∀ i ys news v I oI C oC D m₂ h tk (E' : Value → Shared → Prop), i < n → J i ys news → P i v → NsObj oC m₂ → m₂ x = some v → Fr h₀ L h m → News h₀ L h ((I, oI) :: (C, oC) :: (D, lst ys) :: news) → Off3 I C D news → ((@Ne Nat I C) ∧ (@Ne Nat I D) ∧ (@Ne Nat C D)) →
      wpAny (model prog w) A (eval elt (compEnvC scope cl C env)) (CompEnd h₀ L m { s with heap := h, toks := tk } I oI C oC D (lst ys) S (fun y news' => J (i + 1) (ys ++ [y]) news')) E' { s with heap := h, toks := tk })
    (fin : ∀ ys news, J n ys news → Fin ys news) : ∀ k i ys news, i + k = n → J i ys news → CompRest prog w A h₀ L m env elt x scope cl s S P Fin k i ys news := by
  intro k
  induction k with
  | zero => intro i ys news e hJ; exact fin _ _ (by have : i = n := by omega
                                                    exact this ▸ hJ)
  | succ k ih =>
    intro i ys news e hJ v I oI C oC D m₂ h tk E' hv hC hx F N off ne
    exact wpAny_mono (turn i ys news v I oI C oC D m₂ h tk E' (by omega) hJ hv hC hx F N off ne) (fun y s₂ q => compEnd_mono q fun nw z => ih (i + 1) _ nw (by omega) z) fun _ _ q => q

theorem rest_T {ct elt : Expr} {x : Str} {scope : Scope} {cl : List (Str × Addr)} {S : List (Addr × Obj) → Prop} {P : Nat → Value → Prop} {Fin : List Value → List (Addr × Obj) → Prop} {n : Nat} (J : Nat → List Value → List (Addr × Obj) → Prop)
    (turn : ∀ i ys news v I oI C oC D m₂ h tk (E' : Value → Shared → Prop), i < n → J i ys news → P i v → NsObj oC m₂ → m₂ x = some v → Fr h₀ L h m → News h₀ L h ((I, oI) :: (C, oC) :: (D, lst ys) :: news) → Off3 I C D news → ((@Ne Nat I C) ∧ (@Ne Nat I D) ∧ (@Ne Nat C D)) →
      wpAny (model prog w) A (isTrue ct (compEnvC scope cl C env) (eval ct (compEnvC scope cl C env))) (fun ok s' => if ok = true then
        wpAny (model prog w) A (eval elt (compEnvC scope cl C env)) (CompEnd h₀ L m { s with heap := h, toks := tk } I oI C oC D (lst ys) S (fun y news' => J (i + 1) (ys ++ [y]) news')) E' s'
        else CompEnd h₀ L m { s with heap := h, toks := tk } I oI C oC D (lst ys) S (fun _ news' => J (i + 1) ys news') Value.none s') E' { s with heap := h, toks := tk })
    (fin : ∀ ys news, J n ys news → Fin ys news) : ∀ k i ys news, i + k = n → J i ys news → CompRestT prog w A h₀ L m env ct elt x scope cl s S P Fin k i ys news := by
  intro k
  induction k with
  | zero => intro i ys news e hJ; exact fin _ _ (by have : i = n := by omega
                                                    exact this ▸ hJ)
  | succ k ih =>
    intro i ys news e hJ v I oI C oC D m₂ h tk E' hv hC hx F N off ne
    refine wpAny_mono (turn i ys news v I oI C oC D m₂ h tk E' (by omega) hJ hv hC hx F N off ne) (fun ok s₂ q => ?_) fun _ _ q => q
    by_cases hok : ok = true
    · rw [if_pos hok] at q ⊢
      exact wpAny_mono q (fun y s₂ q => compEnd_mono q fun nw z => ih (i + 1) _ nw (by omega) z) fun _ _ q => q
    · rw [if_neg hok] at q ⊢
      exact compEnd_mono q fun nw z => ih (i + 1) _ nw (by omega) z

theorem rest_P {elt : Expr} {x x₂ : Str} {scope : Scope} {cl : List (Str × Addr)} {S : List (Addr × Obj) → Prop} {P : Nat → Value → Prop} {Fin : List Value → List (Addr × Obj) → Prop} {n : Nat} (J : Nat → List Value → List (Addr × Obj) → Prop)
    (turn : ∀ i ys news v, i < n → J i ys news → P i v → ∃ (t : Addr) (ot : Obj) (v₁ v₂ : Value) (nt : Nat), v = .ref t ∧ (t, ot) ∈ news ∧ ot.cls = .type "tuple" ∧ ot.data = .seq #[v₁, v₂] nt ∧
      ∀ I oI C oC D m₂ h tk (E' : Value → Shared → Prop), NsObj oC m₂ → m₂ x = some v₁ → m₂ x₂ = some v₂ → Fr h₀ L h m → News h₀ L h ((I, oI) :: (C, oC) :: (D, lst ys) :: news) → Off3 I C D news → ((@Ne Nat I C) ∧ (@Ne Nat I D) ∧ (@Ne Nat C D)) →
      wpAny (model prog w) A (eval elt (compEnvC scope cl C env)) (CompEnd h₀ L m { s with heap := h, toks := tk } I oI C oC D (lst ys) S (fun y news' => J (i + 1) (ys ++ [y]) news')) E' { s with heap := h, toks := tk })
    (fin : ∀ ys news, J n ys news → Fin ys news) : ∀ k i ys news, i + k = n → J i ys news → CompRestP prog w A h₀ L m env elt x x₂ scope cl s S P Fin k i ys news := by
  intro k
  induction k with
  | zero => intro i ys news e hJ; exact fin _ _ (by have : i = n := by omega
                                                    exact this ▸ hJ)
  | succ k ih =>
    intro i ys news e hJ v hv
    obtain ⟨t, ot, v₁, v₂, nt, h1, h2, h3, h4, tn⟩ := turn i ys news v (by omega) hJ hv
    refine ⟨t, ot, v₁, v₂, nt, h1, h2, h3, h4, fun I oI C oC D m₂ h tk E' hC hx hx2 F N off ne => ?_⟩
    exact wpAny_mono (tn I oI C oC D m₂ h tk E' hC hx hx2 F N off ne) (fun y s₂ q => compEnd_mono q fun nw z => ih (i + 1) _ nw (by omega) z) fun _ _ q => q
end ind
end HKP
end SHKComp

section SHKSort
local macro_rules | `(tactic| walk_at "no such key") => `(tactic| skip)
set_option maxRecDepth 100000
set_option maxHeartbeats 2000000
namespace HKP
open PySem PySem.W PyProof.Rows PySem.Spec PySem.Calls

/-! the library's sort as a tree of questions: what it answers when the questions are pure -/
def krun {α : Type} (lt : Nat → Nat → Bool) : KasT α → α
  | .ret a => a
  | .ask i j k => krun lt (k (lt i j))
def KOk {α : Type} (n : Nat) (P : α → Prop) : KasT α → Prop
  | .ret a => P a
  | .ask i j k => i < n ∧ j < n ∧ ∀ b, KOk n P (k b)
theorem KOk.bind {α β : Type} {n : Nat} {P : α → Prop} {R : β → Prop} {f : α → KasT β} : ∀ {t : KasT α}, KOk n P t → (∀ a, P a → KOk n R (f a)) → KOk n R (t.bind f)
  | .ret a, h, hf => hf a h
  | .ask i j k, h, hf => ⟨h.1, h.2.1, fun b => KOk.bind (h.2.2 b) hf⟩
theorem krun_ok {α : Type} {n : Nat} {P : α → Prop} {lt : Nat → Nat → Bool} : ∀ {t : KasT α}, KOk n P t → P (krun lt t)
  | .ret _, h => h
  | .ask i j k, h => by
    show P (krun lt (k (lt i j)))
    exact krun_ok (h.2.2 (lt i j))
theorem kwp_of_ok {α : Type} {n : Nat} {P : α → Prop} {lt : Nat → Nat → Bool} {cmp : Nat → Nat → (Bool → Shared → Prop) → Shared → Prop} {Q : α → Shared → Prop} {s : Shared}
    (hc : ∀ i j (C : Bool → Shared → Prop), i < n → j < n → C (lt i j) s → cmp i j C s) : ∀ {t : KasT α}, KOk n P t → Q (krun lt t) s → t.kasWp cmp Q s
  | .ret _, _, h => h
  | .ask i j k, o, h => hc i j _ o.1 o.2.1 (kwp_of_ok hc (o.2.2 (lt i j)) h)

def Good1 (n : Nat) (p : Array Nat) : Prop := p.Perm (List.range n).toArray
theorem Good1.lt {n : Nat} (hn : 0 < n) {p : Array Nat} (h : Good1 n p) (i : Nat) : p.getD i 0 < n := by
  by_cases hi : i < p.size
  · have e : p.getD i 0 = p[i] := by simp [Array.getD, hi]
    rw [e]
    have hm : p[i] ∈ p := Array.getElem_mem hi
    have := h.mem_iff.mp hm
    simpa using this
  · have e : p.getD i 0 = 0 := by simp [Array.getD, hi]
    rw [e]; exact hn
theorem Good1.rev {n : Nat} {p : Array Nat} (h : Good1 n p) (i j : Nat) : Good1 n (kas_rev p i j) := (mirror_perm _ _ _ _).trans h

theorem asc_ok {n : Nat} (hn : 0 < n) {p : Array Nat} (h : Good1 n p) : ∀ f k, KOk n (fun _ => True) (kas_asc p f k)
  | 0, _ => trivial
  | f + 1, k => ⟨h.lt hn _, h.lt hn _, fun b => by
      cases b with
      | true => exact trivial
      | false => exact asc_ok hn h f (k + 1)⟩
theorem desc_ok {n : Nat} (hn : 0 < n) : ∀ f {p : Array Nat} (h : Good1 n p) k q, KOk n (fun r => Good1 n r.1) (kas_desc f p k q)
  | 0, _, h, _, _ => h
  | f + 1, p, h, k, q => ⟨h.lt hn _, h.lt hn _, fun b => by
      cases b with
      | true =>
        dsimp only
        rw [if_pos rfl]
        split
        · exact desc_ok hn f (h.rev _ _) _ _
        · exact desc_ok hn f h _ _
      | false =>
        dsimp only
        rw [if_neg (by simp)]
        exact ⟨h.lt hn _, h.lt hn _, fun b => by
          cases b with
          | true => dsimp only; rw [if_pos rfl]; exact h
          | false => dsimp only; rw [if_neg (by simp)]; exact desc_ok hn f h _ _⟩⟩
theorem tail3_ok {n : Nat} (hn : 0 < n) {p : Array Nat} (h : Good1 n p) (a b : Nat) : KOk n (fun r => Good1 n r.2) (kas_tail3 a b p) :=
  KOk.bind (asc_ok hn (h.rev _ _) _ _) fun _ _ => h.rev _ _
theorem descPart_ok {n : Nat} (hn : 0 < n) {p : Array Nat} (h : Good1 n p) (a b : Nat) : KOk n (fun r => Good1 n r.2) (kas_descPart a b p) :=
  KOk.bind (desc_ok hn _ h _ _) fun r hr => by
    split
    · exact tail3_ok hn (Good1.rev hr _ _) _ _
    · exact tail3_ok hn hr _ _
theorem count_ok {n : Nat} (hn : 0 < n) {p : Array Nat} (h : Good1 n p) (a : Nat) : KOk n (fun r => Good1 n r.2) (kas_count a p) :=
  KOk.bind (asc_ok hn h _ _) fun k _ => by
    split
    · exact h
    · split
      · exact ⟨h.lt hn _, h.lt hn _, fun b => by
          cases b with
          | true => dsimp only; rw [if_pos rfl]; exact h
          | false => dsimp only; rw [if_neg (by simp)]; exact descPart_ok hn (h.rev _ _) _ _⟩
      · exact descPart_ok hn h _ _
theorem place_ok {n : Nat} (hn : 0 < n) {p : Array Nat} (h : Good1 n p) (k : Nat) : ∀ f l r, KOk n (fun _ => True) (kas_place p k f l r)
  | 0, _, _ => trivial
  | f + 1, l, r => by
    unfold kas_place
    split
    · exact trivial
    · exact ⟨h.lt hn _, h.lt hn _, fun b => by
        cases b with
        | true => dsimp only; rw [if_pos rfl]; exact place_ok hn h k f _ _
        | false => dsimp only; rw [if_neg (by simp)]; exact place_ok hn h k f _ _⟩
theorem bin_ok {n : Nat} (hn : 0 < n) : ∀ f {p : Array Nat} (h : Good1 n p) k, KOk n (Good1 n) (kas_bin f p k)
  | 0, _, h, _ => h
  | f + 1, p, h, k => KOk.bind (place_ok hn h k _ _ _) fun l _ => bin_ok hn f ((bubble_perm _ _ _).trans h) _
theorem sort_ok {n : Nat} (hn : 0 < n) : KOk n (Good1 n) (kas_sort n) :=
  KOk.bind (count_ok hn (p := List.toArray (List.range n)) (Array.Perm.refl _) n) fun r hr => by
    split
    · exact bin_ok hn _ hr _
    · exact hr

/-! pairs (int, str) -/
def ltP (p q : Int × Str) : Bool := if p.1 == q.1 then (if decide (p.2 = q.2) then false else decide (p.2.cps.toList < q.2.cps.toList)) else decide (p.1 < q.1)
def dfP : Int × Str := (0, "")
def srtIdx (l : List (Int × Str)) : List Nat := if l.length < 2 then List.range l.length else (krun (fun i j => ltP (l.getD i dfP) (l.getD j dfP)) (kas_sort l.length)).toList
theorem srtIdx_perm (l : List (Int × Str)) : (srtIdx l).Perm (List.range l.length) := by
  unfold srtIdx
  split
  · exact List.Perm.refl _
  · have h : Good1 l.length (krun (fun i j => ltP (l.getD i dfP) (l.getD j dfP)) (kas_sort l.length)) := krun_ok (sort_ok (by omega))
    exact Array.perm_iff_toList_perm.mp h
def srt (l : List (Int × Str)) : List (Int × Str) := (srtIdx l).map fun i => l.getD i dfP
theorem map_getD_range {α : Type} (l : List α) (d : α) : (List.range l.length).map (fun i => l.getD i d) = l := by
  apply List.ext_getElem?
  intro i
  rw [List.getElem?_map]
  by_cases h : i < l.length
  · simp [h]
  · simp [h]
theorem srt_perm (l : List (Int × Str)) : (srt l).Perm l := by
  have := (srtIdx_perm l).map fun i => l.getD i dfP
  rw [map_getD_range] at this
  exact this
theorem srt_length (l : List (Int × Str)) : (srt l).length = l.length := (srt_perm l).length_eq
theorem srtIdx_length (l : List (Int × Str)) : (srtIdx l).length = l.length := by have := (srtIdx_perm l).length_eq; simpa using this

/-- the values are refs to tuples of the ledger that hold these pairs -/
def PairsIn (led : List (Addr × Obj)) : List Value → List (Int × Str) → Prop
  | [], [] => True
  | v :: vs, p :: l => (∃ a t t' n, v = .ref a ∧ (a, ({ cls := .type "tuple", data := .seq #[.int p.1 t, .str p.2 t'] n } : Obj)) ∈ led) ∧ PairsIn led vs l
  | _, _ => False
theorem PairsIn.mono {led led' : List (Addr × Obj)} (hm : ∀ p ∈ led, p ∈ led') : ∀ {vs : List Value} {l : List (Int × Str)}, PairsIn led vs l → PairsIn led' vs l
  | [], [], _ => trivial
  | [], _ :: _, h => h.elim
  | _ :: _, [], h => h.elim
  | _ :: _, _ :: _, ⟨⟨a, t, t', n, e, m⟩, r⟩ => ⟨⟨a, t, t', n, e, hm _ m⟩, r.mono hm⟩
theorem PairsIn.length {led : List (Addr × Obj)} : ∀ {vs : List Value} {l : List (Int × Str)}, PairsIn led vs l → vs.length = l.length
  | [], [], _ => rfl
  | [], _ :: _, h => h.elim
  | _ :: _, [], h => h.elim
  | _ :: _, _ :: _, h => by rw [List.length_cons, List.length_cons, h.2.length]
theorem PairsIn.get {led : List (Addr × Obj)} : ∀ {vs : List Value} {l : List (Int × Str)}, PairsIn led vs l → ∀ {i : Nat} {v : Value}, vs[i]? = some v → ∃ p a t t' n, l[i]? = some p ∧ v = .ref a ∧ (a, ({ cls := .type "tuple", data := .seq #[.int p.1 t, .str p.2 t'] n } : Obj)) ∈ led
  | [], [], _, i, v, h => by simp at h
  | [], _ :: _, h, _, _, _ => h.elim
  | _ :: _, [], h, _, _, _ => h.elim
  | v₀ :: vs, p :: l, h, 0, v, e => by
    obtain ⟨a, t, t', n, e1, m⟩ := h.1
    simp at e; subst e
    exact ⟨p, a, t, t', n, rfl, e1, m⟩
  | v₀ :: vs, p :: l, h, i + 1, v, e => by simpa using h.2.get (i := i) (by simpa using e)
theorem PairsIn.snoc {led : List (Addr × Obj)} {a : Addr} {t t' : Tok} {n : Nat} {p : Int × Str} (hm : (a, ({ cls := .type "tuple", data := .seq #[.int p.1 t, .str p.2 t'] n } : Obj)) ∈ led) : ∀ {vs : List Value} {l : List (Int × Str)}, PairsIn led vs l → PairsIn led (vs ++ [.ref a]) (l ++ [p])
  | [], [], _ => ⟨⟨a, t, t', n, rfl, hm⟩, trivial⟩
  | [], _ :: _, h => h.elim
  | _ :: _, [], h => h.elim
  | _ :: _, _ :: _, h => ⟨h.1, h.2.snoc hm⟩
theorem PairsIn.pick {led : List (Addr × Obj)} {vs : List Value} {l : List (Int × Str)} (h : PairsIn led vs l) : ∀ (idx : List Nat), (∀ i ∈ idx, i < l.length) → PairsIn led (idx.map fun i => vs.getD i Value.none) (idx.map fun i => l.getD i dfP)
  | [], _ => trivial
  | i :: idx, hi => by
    refine ⟨?_, PairsIn.pick h idx fun j hj => hi j (List.mem_cons_of_mem _ hj)⟩
    have hl : i < l.length := hi i (List.mem_cons_self)
    have hv : i < vs.length := by rw [h.length]; exact hl
    obtain ⟨p, a, t, t', n, e1, e2, m⟩ := h.get (i := i) (v := vs[i]) (List.getElem?_eq_getElem hv)
    refine ⟨a, t, t', n, ?_, ?_⟩
    · show vs.getD i Value.none = _
      rw [← e2]; simp [hv]
    · have : l.getD i dfP = p := by rw [List.getD_eq_getElem?_getD, e1]; rfl
      show (a, _) ∈ led
      dsimp only
      rw [this]; exact m

section walk
variable {prog : Program} {w : World} {A : Around} {E : Value → Shared → Prop} {s : Shared} {h₀ : Heap} {L a : Addr} {m : Str → Option Value} {led : List (Addr × Obj)} {vs : List Value} {l : List (Int × Str)}

theorem ask_pairs (N : News h₀ L s.heap led) (P : PairsIn led vs l) {i j : Nat} (hi : i < l.length) (hj : j < l.length) {C : Bool → Shared → Prop} (h : C (ltP (l.getD i dfP) (l.getD j dfP)) s) : kas_ask prog w A (tuples' true) vs i j C s := by
  have hv : i < vs.length := by rw [P.length]; exact hi
  have hw : j < vs.length := by rw [P.length]; exact hj
  obtain ⟨p, ap, tp, tp', np, e1, e2, mp⟩ := P.get (i := i) (v := vs[i]) (List.getElem?_eq_getElem hv)
  obtain ⟨q, aq, tq, tq', nq, f1, f2, mq⟩ := P.get (i := j) (v := vs[j]) (List.getElem?_eq_getElem hw)
  have x1 : vs.getD i Value.none = .ref ap := by rw [← e2]; simp [hv]
  have x2 : vs.getD j Value.none = .ref aq := by rw [← f2]; simp [hw]
  have y1 : l.getD i dfP = p := by rw [List.getD_eq_getElem?_getD, e1]; rfl
  have y2 : l.getD j dfP = q := by rw [List.getD_eq_getElem?_getD, f1]; rfl
  unfold kas_ask
  rw [x1, x2]
  rw [y1, y2] at h
  refine kat_lt (N _ mp).1 rfl (N _ mq).1 rfl ?_
  show KatLex prog w A true _ _ [(.int p.1 tp, .int q.1 tq), (.str p.2 tp', .str q.2 tq')] 0 s
  refine kat_cons (wpAny_eqBool_int ?_)
  unfold ltP at h
  by_cases hpq : (p.1 == q.1) = true
  · rw [if_pos hpq] at h
    rw [hpq]
    refine kat_yes (kat_cons (wpAny_eqBool_str ?_))
    by_cases hs : p.2 = q.2
    · rw [if_pos (decide_eq_true hs)] at h
      rw [decide_eq_true hs]
      exact kat_yes (kat_nil h)
    · rw [if_neg (by simpa using hs)] at h
      rw [decide_eq_false hs]
      refine kat_no (kat_one _ _ (PyProof.Rows.lt_str ?_))
      exact h
  · rw [if_neg hpq] at h
    rw [Bool.not_eq_true] at hpq
    rw [hpq]
    exact kat_no (oneLt_int h)

theorem tups_of {h : Heap} (N : News h₀ L h led) : ∀ {vs : List Value} {l : List (Int × Str)}, PairsIn led vs l → ∃ fs, KatTups h vs fs ∧ fs.length = vs.length ∧ ∀ v ∈ fs, ∃ x t, v = .int x t
  | [], [], _ => ⟨[], .nil, rfl, fun _ h => nomatch h⟩
  | [], _ :: _, h => h.elim
  | _ :: _, [], h => h.elim
  | v :: vs, p :: l, hP => by
    obtain ⟨⟨a, t, t', n, rfl, mm⟩, r⟩ := hP
    obtain ⟨fs, k, e, hf⟩ := tups_of N r
    refine ⟨.int p.1 t :: fs, .cons (N _ mm).1 rfl rfl rfl k, by rw [List.length_cons, List.length_cons, e], fun x hx => ?_⟩
    rcases List.mem_cons.mp hx with rfl | hx
    · exact ⟨_, _, rfl⟩
    · exact hf x hx

theorem sort_pairs {n : Nat} {Q : Value → Shared → Prop} (F : Fr h₀ L s.heap m) (N : News h₀ L s.heap led) (ho : s.heap.get? a = some (seqObj "list" vs.toArray n)) (haL : a ≠ L) (ha0 : h₀.get? a = none) (hna : ∀ p ∈ led, p.1 ≠ a) (P : PairsIn led vs l) (h64 : vs.length < 64)
    (h : ∀ c h', Fr h₀ L h' m → News h₀ L h' ((a, listOf ((srtIdx l).map fun i => vs.getD i Value.none).toArray c) :: led) → Q .none { s with heap := h' }) :
    wpAny (model prog w) A (call (.builtin "list.sort") [.ref a]) Q E s := by
  refine wpAny_call_entry slot_list_sort ⟨_, ho, rfl⟩ entry_list_sort ?_ (args_list_sort _)
  by_cases h2 : vs.length < 2
  · have ha : a < s.heap.objs.size := Heap.lt_size ho
    have s1 := Heap.SameBut.update s.heap a (Obj.mapSeq fun _ => (#[] : Array Value))
    obtain ⟨e1, ho1⟩ : ∃ e1, (s.heap.update a (Obj.mapSeq fun _ => (#[] : Array Value))).get? a = some (seqObj "list" #[] e1) := ⟨_, get?_update_seq ho fun _ => #[]⟩
    have F3 : Fr h₀ L (((s.heap.update a (Obj.mapSeq fun _ => (#[] : Array Value))).push (seqObj "tuple" vs.toArray 0)).push (seqObj "list" #[] 0)) m := ((kas_fr F s1 haL ha0).push _).push _
    have N2 : News h₀ L (((s.heap.update a (Obj.mapSeq fun _ => (#[] : Array Value))).push (seqObj "tuple" vs.toArray 0)).push (seqObj "list" #[] 0)) led :=
      (kas_news N s1 hna).grown fun b x e => Heap.get?_push_of_some _ (Heap.get?_push_of_some _ e)
    have na : (((s.heap.update a (Obj.mapSeq fun _ => (#[] : Array Value))).push (seqObj "tuple" vs.toArray 0)).push (seqObj "list" #[] 0)).get? a = some (seqObj "list" #[] e1) := Heap.get?_push_of_some _ (Heap.get?_push_of_some _ ho1)
    rw [list_sort_plain]
    refine wpAny_bind (listItems_at ho rfl ?_)
    refine wpAny_bind (listUpdate_at ho rfl ?_ (by rw [List.size_toArray, sizeLine_eq]; omega) (Nat.zero_le _))
    refine wpAny_bind (seqEpoch_at ho1 rfl ?_)
    refine wpAny_bind (wpAny_newTuple ?_ (by show vs.length ≤ _; rw [sizeLine_eq]; omega))
    refine wpAny_bind (wpAny_newList ?_ (Nat.zero_le _))
    refine wpAny_holding ?_
    show wpAny (model prog w) _ _ _ E { s with heap := ((s.heap.update a (Obj.mapSeq fun _ => (#[] : Array Value))).push (seqObj "tuple" vs.toArray 0)).push (seqObj "list" #[] 0) }
    dsimp only
    have hn2 : vs.toArray.size < 2 := by rw [List.size_toArray]; omega
    rw [if_pos hn2, if_pos hn2]
    refine wpAny_bind (wpAny_pure ?_)
    rw [StateT.run_pure]
    refine wpAny_bind (wpAny_pure ?_)
    dsimp only
    have hout : (arrOf (SortSt.mk' general' (vs.toArray.zip vs.toArray) #[] 7 none)).map (·.2) = ((srtIdx l).map fun i => vs.getD i Value.none).toArray := by
      have e2 : srtIdx l = List.range vs.length := by
        unfold srtIdx
        rw [if_pos (by rw [← P.length]; exact h2), P.length]
      rw [e2, map_getD_range]
      show (vs.toArray.zip vs.toArray).map (·.2) = vs.toArray
      apply Array.toList_inj.mp
      simp only [Array.toList_map, Array.toList_zip, List.toList_toArray]
      exact List.map_snd_zip (Nat.le_refl _)
    rw [hout]
    refine wpAny_bind (seqEpoch_at na rfl ?_)
    have hsz : ((srtIdx l).map fun i => vs.getD i Value.none).toArray.size < 64 := by rw [List.size_toArray, List.length_map, srtIdx_length, ← P.length]; exact h64
    refine wpAny_bind (listUpdate_at na rfl ?_ (Nat.zero_le _) (by rw [sizeLine_eq]; omega))
    simp only [bne_self_eq_false, Bool.false_eq_true, if_false]
    have s2 := Heap.SameBut.update (((s.heap.update a (Obj.mapSeq fun _ => (#[] : Array Value))).push (seqObj "tuple" vs.toArray 0)).push (seqObj "list" #[] 0)) a (Obj.mapSeq fun _ => ((srtIdx l).map fun i => vs.getD i Value.none).toArray)
    obtain ⟨c2, hc2⟩ : ∃ c2, ((((s.heap.update a (Obj.mapSeq fun _ => (#[] : Array Value))).push (seqObj "tuple" vs.toArray 0)).push (seqObj "list" #[] 0)).update a (Obj.mapSeq fun _ => ((srtIdx l).map fun i => vs.getD i Value.none).toArray)).get? a = some (seqObj "list" ((srtIdx l).map fun i => vs.getD i Value.none).toArray c2) := ⟨_, get?_update_seq na fun _ => ((srtIdx l).map fun i => vs.getD i Value.none).toArray⟩
    refine wpAny_pure ⟨_, rfl, h c2 _ (kas_fr F3 s2 haL ha0) fun p hp => ?_⟩
    rcases List.mem_cons.mp hp with rfl | hp
    · exact ⟨hc2, haL, ha0⟩
    · exact kas_news N2 s2 hna p hp
  · refine kat_list_sort (news := led) F N ho haL ha0 hna (by omega) h64 fun e1 h' F' N' => ?_
    have N₁ : News h₀ L h' led := fun p hp => N' p (List.mem_cons_of_mem _ hp)
    obtain ⟨fs, kt, hfl, hfi⟩ := tups_of N₁ P
    refine kat_kind (T := .type "int") kt (by omega) (fun v hv => ?_) (by decide) ?_
    · obtain ⟨x, t, rfl⟩ := hfi v hv
      exact Looks.now
    · have hlen := P.length
      show (kas_sort vs.length).kasWp (kas_ask prog w _ (tuples' true) vs) _ _
      have hidx : srtIdx l = (krun (fun i j => ltP (l.getD i dfP) (l.getD j dfP)) (kas_sort l.length)).toList := by
        unfold srtIdx
        rw [if_neg (by omega)]
      rw [hlen]
      refine kwp_of_ok (lt := fun i j => ltP (l.getD i dfP) (l.getD j dfP)) (fun i j C hi hj hC => ask_pairs N₁ P hi hj hC) (sort_ok (by omega)) ?_
      rw [← hidx]
      exact KasFin.intro F' N' (.head hna) fun h2 c F2 N2 => ⟨_, rfl, h c h2 F2 N2⟩

theorem kdx_all {K : Type} [DecidableEq K] {kvs : List (Int × Value)} {lo : Addr} {news : List (Addr × Obj)} {C : List Value → List (Addr × Obj) → Prop} {l : List (Int × Str)} (h : Rep encS kvs l) :
    ∀ (l0 : List (Int × Str)) (vs : List Value) (tups : List (Addr × Obj)), PairsIn tups vs l0 → (∀ p ∈ tups, lo < p.1 ∧ ∀ q ∈ news, q.1 < p.1) → (∀ vs tups, PairsIn tups vs (l0 ++ l) → (∀ p ∈ tups, lo < p.1 ∧ ∀ q ∈ news, q.1 < p.1) → C vs tups) →
      KdxOpen lo news (kvs.map fun p => (kyVal (.int p.1), p.2)) vs tups C := by
  induction h with
  | nil => intro l0 vs tups P hl hC; exact .nil (hC vs tups (by simpa using P) hl)
  | @cons k v d a b hr _ ih =>
    intro l0 vs tups P hl hC
    obtain ⟨tv, rfl⟩ := hr
    refine .cons fun ad t h1 h2 h3 => ih (l0 ++ [(k, d)]) _ _ (PairsIn.snoc (t := t) (t' := tv) (p := (k, d)) (List.Mem.head _) (P.mono fun p hp => List.mem_cons_of_mem _ hp)) ?_ ?_
    · intro p hp
      rcases List.mem_cons.mp hp with rfl | hp
      · exact ⟨h1, h2⟩
      · exact hl p hp
    · intro vs' tups' P' hl'
      exact hC vs' tups' (by simpa using P') hl'

theorem sorted_items {v d : Addr} {od : Obj} {news : List (Addr × Obj)} {Q : Value → Shared → Prop} (hh : A.handled = none) (F : Fr h₀ L s.heap m) (N : News h₀ L s.heap news) (hvw : (v, { cls := .type "dict_items", data := .fields #[.ref d] }) ∈ news) (hmd : (d, od) ∈ news)
    (hod : DR (PySem.intKind prog w) encS od l) (h64 : l.length < 64)
    (h : ∀ B tups vs c h' tk, PairsIn tups vs (srt l) → (∀ q ∈ tups ++ news, q.1 ≠ B) → (∀ p ∈ tups, ∀ q ∈ news, q.1 ≠ p.1) → Fr h₀ L h' m → News h₀ L h' ((B, listOf vs.toArray c) :: (tups ++ news)) → Q (.ref B) { s with heap := h', toks := tk }) :
    wpAny (model prog w) A (call (.builtin "sorted") [.ref v]) Q E s := by
  obtain ⟨kvs, hd, hr⟩ := hod
  refine kdx_sortedN (enc := .int) hh F N hvw hmd hd (by rw [hr.length]; omega) (fun k v hk => ?_) rfl fun lo hlo => kdx_all (K := Int) hr [] [] [] trivial (fun _ h => nomatch h) fun vs tups P hl B h' tk hB F' N' => ?_
  · obtain ⟨t, rfl⟩ := Value.isInt_shape hk; exact ⟨t, rfl⟩
  · have N₁ : News h₀ L h' (tups ++ news) := fun p hp => N' p (List.mem_cons_of_mem _ hp)
    have nB := N' _ (List.mem_cons_self)
    have P1 : PairsIn (tups ++ news) vs l := P.mono fun p hp => List.mem_append_left _ hp
    refine sort_pairs (l := l) F' N₁ nB.1 nB.2.1 nB.2.2 (fun p hp => Nat.ne_of_lt (hB p hp)) P1 (by rw [P1.length]; exact h64) fun c h2 F2 N2 => ?_
    refine h B tups _ c h2 tk (P.pick _ fun i hi => by have := (srtIdx_perm l).mem_iff.mp hi; simpa using this) (fun q hq => Nat.ne_of_lt (hB q hq)) (fun p hp q hq => Nat.ne_of_lt ((hl p hp).2 q hq)) F2 N2
end walk
end HKP
end SHKSort

section SHKDictP
local macro_rules | `(tactic| walk_at "no such key") => `(tactic| skip)
local macro_rules | `(tactic| walk_at "no such key") => `(tactic| skip)
set_option maxRecDepth 100000
set_option maxHeartbeats 2000000
namespace HKP
open PySem PySem.W PyProof.Rows PySem.Spec PySem.Calls

/-! dict() of a list of pairs -/
namespace FP
theorem miss_keys : typeLookup (.type "list") "keys" = pure none := am_miss_of_fast (by decide +kernel)
theorem entry_update_loop : entryFor table "dict.update.loop" = some Builtin.«dict.update.loop» := entryFor_of_tree (by kernel_rfl)
theorem plain_update_loop : plainId "dict.update.loop" = true := by decide +kernel
end FP
section
variable {prog : Program} {w : World} {A : Around} {E : Value → Shared → Prop} {s : Shared}

theorem noKeys {a : Addr} {xs : Array Value} {k : Nat} {Q : Option Value → Shared → Prop} (hx : s.heap.get? a = some { cls := .type "list", data := .seq xs k }) (hA : A.handled = none)
    (h : ∀ h' tk, (∀ b ob, s.heap.get? b = some ob → h'.get? b = some ob) → Q none { s with heap := h', toks := tk }) : wpAny (model prog w) A (getAttr? (.ref a) "keys") Q E s := by
  obtain ⟨hp, g, d, tk, os⟩ := s
  have hT : ∀ tk', (⟨hp, g, d, tk', os⟩ : Shared).TypeIs (.ref a) "list" := fun _ => ⟨_, hx, rfl⟩
  have f1 := sub_AttributeError
  have f3 := F.slot_list_getattribute.lookup
  have f4 := F.slot_list_getattribute.bind (.ref a)
  have f5 := am_list_getattr_none
  unfold getAttr? getAttrBy? getAttrBy
  repeat (any_goals (first | assumption | exact hT _ | ((with_reducible show wpAny _ _ (call (Value.builtin "list.__getattribute__") _ _) _ _ _); refine call_meets F.slot_list_getattribute (hT _) am_entry_list_getattribute (F.args_list_getattribute_2 _ _) (meets_getattribute_miss_list a xs k #[] "keys" _ FP.miss_keys (by decide +kernel) (by decide +kernel)) ⟨hx, hA, fun h' tk' e hx' => ?_⟩) | wp_step))
  obtain ⟨t', u', he⟩ := hx'.there
  show wpAny _ _ (getattributeRaised _ _ _ _ _ _ _) _ _ _
  unfold getattributeRaised
  repeat (any_goals (first | assumption | wp_step))
  exact h _ _ hx'.keeps

def toDict (l : List (Int × Str)) : List (Str × Int) := l.foldl (fun acc p => aput acc p.2 p.1) []
theorem toDict_snoc (l : List (Int × Str)) (p : Int × Str) : toDict (l ++ [p]) = aput (toDict l) p.2 p.1 := by unfold toDict; rw [List.foldl_append]; rfl
theorem aput_length_le {K V : Type} [DecidableEq K] (l : List (K × V)) (k : K) (v : V) : (aput l k v).length ≤ l.length + 1 := by
  unfold aput
  split
  · rw [List.length_map]; omega
  · rw [List.length_append, List.length_singleton]; omega
theorem toDict_length (l : List (Int × Str)) (n : Nat) : (toDict (l.take n)).length ≤ n := by
  induction n with
  | zero => simp [toDict]
  | succ n ih =>
    by_cases h : n < l.length
    · rw [List.take_succ_eq_append_getElem h, toDict_snoc]
      have := aput_length_le (toDict (l.take n)) (l[n]).2 (l[n]).1
      omega
    · rw [List.take_of_length_le (by omega)]
      rw [List.take_of_length_le (by omega)] at ih
      omega

/-- the values are refs to tuples (right, left) -/
def SwapsAt (h : Heap) (vs : List Value) (l : List (Int × Str)) : Prop := vs.length = l.length ∧ ∀ (i : Nat) (v : Value), vs[i]? = some v → ∃ (p : Int × Str) (a : Addr) (t t' : Tok) (n : Nat), l[i]? = some p ∧ v = Value.ref a ∧ h.get? a = some ({ cls := .type "tuple", data := .seq #[.str p.2 t', .int p.1 t] n } : Obj)

theorem upd_loop {d I ax : Addr} {vs : List Value} {l : List (Int × Str)} {res : Value} {h₁ : Heap} {R : Result → Shared → Prop} (hh : A.handled = none) (hdI : d ≠ I) (hda : d ≠ ax) (hIa : ax ≠ I) (hsz : l.length ≤ 1000)
    (hS : SwapsAt h₁ vs l) (hoff : ∀ (i : Nat) (a : Addr), vs[i]? = some (Value.ref a) → a ≠ d ∧ a ≠ I)
    (hR : ∀ h' tk, (∀ b o, b ≠ d → b ≠ I → h₁.get? b = some o → h'.get? b = some o) → (∃ kv, h'.DictOf (PySem.strKind prog w) d kv ∧ Rep encI kv (toDict l)) → R (.ok (.ret res)) { s with heap := h', toks := tk }) :
    ∀ (k i : Nat) (h : Heap) (tk : Nat) (u : Tok) (nI : Int), vs.length - i = k → i ≤ vs.length → (h.IsListIter I ax i ∧ h.IsList ax vs.toArray) → (∃ kv, h.DictOf (PySem.strKind prog w) d kv ∧ Rep encI kv (toDict (l.take i))) → (∀ b o, b ≠ d → b ≠ I → h₁.get? b = some o → h.get? b = some o) →
      codeAny (model prog w) A (.builtin "dict.update.loop" ⟨[.ref d, .ref I, .int nI u, res], []⟩) R { s with heap := h, toks := tk } := by
  have W := Walks.list (prog := prog) (w := w) (A := A.in1) hh I ax hIa vs.toArray
  have hlen : vs.toArray.size = vs.length := by simp
  rw [hlen] at W
  intro k
  induction k with
  | zero =>
    intro i h tk u nI hk hi hst hD hkeep
    have hin : i = vs.length := by omega
    subst hin
    refine codeAny_builtin FP.entry_update_loop ?_
    rw [Around.under_plainId FP.plain_update_loop _]
    show wpAny _ A.in1 (pyNext (.ref I) >>= _) _ _ _
    refine wpAny_bind (W.done _ _ _ hst fun h' tk' hk' => ?_)
    show wpAny _ _ (Builtin.Dict.addKeywords d [] >>= _) _ _ _
    refine wpAny_bind (wpAny_pure (wpAny_pure (hR h' tk' (fun b o h1 h2 e => hk' b o (by simpa using h2) (hkeep b o h1 h2 e)) ?_)))
    obtain ⟨kv, ⟨o, es, ep, ho, r⟩, hr⟩ := hD
    rw [List.take_of_length_le (by have := hS.1; omega)] at hr
    exact ⟨kv, ⟨o, es, ep, hk' d o (by simpa using hdI) ho, r⟩, hr⟩
  | succ k ih =>
    intro i h tk u nI hk hi hst hD hkeep
    have hlt : i < vs.length := by omega
    refine codeAny_builtin FP.entry_update_loop ?_
    rw [Around.under_plainId FP.plain_update_loop _]
    show wpAny _ A.in1 (pyNext (.ref I) >>= _) _ _ _
    refine wpAny_bind (W.item i _ _ _ hlt hst fun v h' tk' hv hst' hk' => ?_)
    have hv' : vs[i]? = some v := by simpa using hv
    obtain ⟨p, a, t, t', n, hp, rfl, ha⟩ := hS.2 i v hv'
    obtain ⟨had, haI⟩ := hoff i a hv'
    have ha' : h'.get? a = some _ := hk' a _ (by simpa using haI) (hkeep a _ had haI ha)
    have hT : ({ s with heap := h', toks := tk' } : Shared).TypeIs (.ref a) "tuple" := ⟨_, ha', rfl⟩
    obtain ⟨kv, ⟨od, es, ep, ho, r⟩, hr⟩ := hD
    have hD' : h'.DictOf (PySem.strKind prog w) d kv := ⟨od, es, ep, hk' d od (by simpa using hdI) ho, r⟩
    have hl : (toDict (l.take i)).length ≤ i := toDict_length l i
    have hkl : kv.length ≤ 1000 := by rw [hr.length]; have := hS.1; omega
    dsimp only
    refine wpAny_bind (wpAny_holding (wpAny_bind (wpAny_tryCatch ?_)))
    unfold Builtin.Dict.pairItems
    refine wpAny_bind (wpAny_typeOf hT ?_)
    rw [if_pos (by decide)]
    refine wpAny_bind ?_
    refine wpAny_seqItems (M := model prog w) (A := A.in1) ha' rfl (wpAny_pure ?_)
    show wpAny _ _ (holding [Value.str p.2 t', Value.int p.1 t] (dictSet d (.str p.2 t') (.int p.1 t))) _ _ _
    refine wpAny_holding (wpAny_dictSet_pairs (knd := PySem.strKind prog w) (strKind_is _ _ _ _) hD' (fun h2 hd2 hs2 => ?_) (by rw [sizeLine_eq]; omega))
    refine wpAny_pure ⟨plainId_quiet FP.plain_update_loop _, ih (i + 1) h2 _ 0 (nI + 1) (by omega) hlt ?_ ?_ ?_⟩
    · exact ⟨hst'.1.at fun o e => hs2.extBut I o (Ne.symm hdI) e, hst'.2.at fun o e => hs2.extBut ax o (Ne.symm hda) e⟩
    · refine ⟨_, hd2, ?_⟩
      have hpl : i < l.length := by have := hS.1; omega
      have e : l.take (i + 1) = l.take i ++ [p] := by
        rw [List.take_succ_eq_append_getElem hpl]
        congr 2
        rw [List.getElem?_eq_getElem hpl] at hp
        exact Option.some.inj hp
      rw [e, toDict_snoc]
      exact hr.put ⟨t, rfl⟩
    · intro b o h1 h2' e
      exact hs2.extBut b o h1 (hk' b o (by simpa using h2') (hkeep b o h1 h2' e))

theorem dict_pairs {ax : Addr} {vs : List Value} {n : Nat} {l : List (Int × Str)} {Q : Value → Shared → Prop} {h₀ : Heap} {L : Addr} {m : Str → Option Value} {led : List (Addr × Obj)} (hh : A.handled = none)
    (F : Fr h₀ L s.heap m) (N : News h₀ L s.heap led) (hm : (ax, listOf vs.toArray n) ∈ led) (hS : SwapsAt s.heap vs l) (hsz : l.length ≤ 1000) (hbig : sysModules < h₀.objs.size)
    (h : ∀ D o h' tk, (D == sysModules) = false → DR (PySem.strKind prog w) encI o (toDict l) → (∀ q ∈ led, q.1 ≠ D) → Fr h₀ L h' m → News h₀ L h' ((D, o) :: led) → Q (.ref D) { s with heap := h', toks := tk }) :
    wpAny (model prog w) A (call (.type "dict") [.ref ax]) Q E s := by
  have ho := (N _ hm).1
  refine callType_codes (Q₁ := fun obj s₁ => obj = .ref s.heap.objs.size ∧ s₁ = { s with heap := s.heap.push { cls := .type "dict", data := .dict #[] } }) PySem.F.kt_called_dict (PySem.F.kt_typeCall_dict_1 _) PySem.F.entry_dict_init (kt_code_dict_new _ ⟨rfl, rfl⟩) ?_
  rintro obj s₁ ⟨rfl, rfl⟩
  have hnew : (s.heap.push { cls := .type "dict", data := .dict #[] }).DictOf (PySem.strKind prog w) s.heap.objs.size [] := Heap.DictOf.new s.heap
  have hxl : ax < s.heap.objs.size := Heap.lt_size ho
  have ho1 : (s.heap.push { cls := .type "dict", data := .dict #[] }).get? ax = some (listOf vs.toArray n) := Heap.get?_push_of_some _ ho
  refine ⟨hnew.typeIs, PySem.F.args_dict_init_2 _ _, ?_⟩
  unfold Builtin.«dict.__init__»
  refine wpAny_bind ?_
  unfold Builtin.Dict.selfAndRest
  refine wpAny_bind (wpAny_notOrdered_dict hnew.typeIs ?_)
  show wpAny _ _ (pure (s.heap.objs.size, [Value.ref ax])) _ _ _
  refine wpAny_pure ?_
  show wpAny _ _ (Builtin.Dict.updateFrom "dict.__init__" s.heap.objs.size (.ref ax) [] .none) _ _ _
  unfold Builtin.Dict.updateFrom
  have hT : ({ s with heap := s.heap.push { cls := .type "dict", data := .dict #[] } } : Shared).TypeIs (.ref ax) "list" := ⟨_, ho1, rfl⟩
  refine wpAny_bind (wpAny_typeOf hT ?_)
  rw [if_pos (by decide)]
  refine wpAny_bind ?_
  refine noKeys ho1 hh fun h2 tk2 k2 => ?_
  dsimp only [Option.isNone_none]
  rw [if_pos rfl]
  refine wpAny_bind (wpAny_rule ?_)
  have hdl : s.heap.objs.size < h2.objs.size := Heap.lt_size (k2 _ _ (Heap.get?_push_size _ rfl))
  have up : ∀ b o, s.heap.get? b = some o → (h2.push { cls := .type "list_iterator", data := .fields #[.ref ax, .int 0 0] }).get? b = some o := fun b o e => Heap.get?_push_of_some _ (k2 b o (Heap.get?_push_of_some _ e))
  have hL2 : h2.IsList ax vs.toArray := ⟨_, k2 _ _ ho1, rfl, _, rfl⟩
  refine wpAny_bind (wpAny_pyIter_list (l := ax) (items := vs.toArray) hL2 ?_)
  refine wpAny_pure ⟨plainId_quiet FP.plain_update_loop _, upd_loop (s := { s with heap := h2, toks := tk2 }) (A := A.in1) (d := s.heap.objs.size) (I := h2.objs.size) (ax := ax) (vs := vs) (l := l) (h₁ := h2.push { cls := .type "list_iterator", data := .fields #[.ref ax, .int 0 0] }) hh (Nat.ne_of_lt hdl) (Nat.ne_of_gt hxl) (Nat.ne_of_lt (Nat.lt_trans hxl hdl)) hsz ⟨hS.1, fun i v hv => ?_⟩ (fun i a hv => ?_) (fun h' tk' hk hD => ?_) vs.length 0 _ _ _ _ (Nat.sub_zero _) (Nat.zero_le _) ⟨⟨_, Heap.get?_push_size _ rfl, rfl, rfl⟩, hL2.push _⟩ ⟨[], ?_, .nil⟩ (fun _ _ _ _ e => e)⟩
  · obtain ⟨p, a, t, t', n, e1, e2, e3⟩ := hS.2 i v hv
    exact ⟨p, a, t, t', n, e1, e2, up _ _ e3⟩
  · obtain ⟨p, b, t, t', n, e1, e2, e3⟩ := hS.2 i _ hv
    cases e2
    have := Heap.lt_size e3
    exact ⟨Nat.ne_of_lt this, Nat.ne_of_lt (Nat.lt_trans this hdl)⟩
  · obtain ⟨kv, ⟨o, es, ep, ho', r⟩, hr⟩ := hD
    have all : ∀ b ob, s.heap.get? b = some ob → h'.get? b = some ob := fun b ob e => hk b ob (Nat.ne_of_lt (Heap.lt_size e)) (Nat.ne_of_lt (Nat.lt_trans (Heap.lt_size e) hdl)) (up b ob e)
    refine ⟨rfl, h _ o h' tk' (F.notModules hbig) ⟨kv, ⟨es, ep, r⟩, hr⟩ (fun q hq => Nat.ne_of_lt (Heap.lt_size (N q hq).1)) (F.keeps all) fun q hq => ?_⟩
    rcases List.mem_cons.mp hq with rfl | hq
    · exact ⟨ho', kdx_fresh F (Nat.le_refl _)⟩
    · exact ⟨all _ _ (N q hq).1, (N q hq).2⟩
  · obtain ⟨o, es, ep, ho', r⟩ := hnew
    exact ⟨o, es, ep, Heap.get?_push_of_some _ (k2 _ _ ho'), r⟩
end
end HKP
end SHKDictP

section SHKLawD
local macro_rules | `(tactic| walk_at "no such key") => `(tactic| skip)
local macro_rules | `(tactic| walk_at "no such key") => `(tactic| skip)
local macro_rules | `(tactic| walk_at "no such key") => `(tactic| skip)
set_option maxRecDepth 100000
namespace HKP
open PySem PySem.W PyProof.Rows PySem.Spec PySem.Calls
def lawStmt : Stmt := PySem.Challenge.pw_iy0015_01.main.body.getLast?.getD (.Pass ⟨0, 0, 0, 0⟩)
def LB : List Stmt := match lawStmt with | .FunctionDef _ _ b _ _ _ _ _ _ _ => b | _ => []
def lawScope : Scope := match lawStmt with | .FunctionDef _ _ _ _ _ _ sc _ _ _ => sc | _ => PySem.Challenge.pw_iy0015_01.main.scope

end HKP
end SHKLawD

section SHKLawA2
set_option maxRecDepth 100000
namespace HKP
open PySem PySem.W PyProof.Rows PySem.Spec PySem.Calls
theorem min3 {prog : Program} {w : World} {A : Around} {E : Value → Shared → Prop} {s : Shared} {h₀ : Heap} {L : Addr} {m : Str → Option Value} {news : List (Addr × Obj)} {n : Nat} {t u : Tok} {Q : Value → Shared → Prop} (hh : A.handled = none) (F : Fr h₀ L s.heap m) (N : News h₀ L s.heap news)
    (h : ∀ h' tk t (k : Int), 0 ≤ k → Fr h₀ L h' m → News h₀ L h' news → Q (.int k t) { s with heap := h', toks := tk }) :
    wpAny (model prog w) A (call (.builtin "min") [.int (n : Int) t, .int 3 u]) Q E s := by
  refine min_two_N hh F N fun h' tk F' N' => ?_
  by_cases c : (3 : Int) < n
  · rw [if_pos c]; exact h h' tk _ 3 (by omega) F' N'
  · rw [if_neg c]; exact h h' tk _ n (by omega) F' N'
local macro_rules | `(tactic| walk_at "pyIter ref") => `(tactic| (k_here; refine held_of ?_))
local macro_rules | `(tactic| walk_at "exec For") => `(tactic| (k_here; refine held_of ?_))
local macro_rules | `(tactic| walk_at "compareOp NotIn int ref") => `(tactic| (k_here; refine held_of ?_))
local macro_rules | `(tactic| walk_at "compareOp NotIn ref ref") => `(tactic| (k_here; refine held_of ?_))
local macro_rules | `(tactic| walk_at "setItem ref int") => `(tactic| (k_here; refine held_of ?_))
local macro_rules | `(tactic| walk_at "call builtin:list.append") => `(tactic| (k_here; refine held_of ?_))
local macro_rules | `(tactic| walk_at "call builtin:len") => `(tactic| (k_here; (with_reducible show wpAny _ _ (call (Value.builtin "len") [Value.ref _]) _ _ _); k_dflt (refine' q_len ?hN ?hp ?hz ?_; (case hN => k_asm); (case hp => k_mem); (case hz => assumption)); intro _))
local macro_rules | `(tactic| walk_at "getMethod ref") => `(tactic| (k_here; (with_reducible show wpAny _ _ (getMethod (Value.ref _) (PySem.Str.ofString "append") _) _ _ _); k_dflt (refine' q_appendM ?hN ?hp ?_; (case hN => k_asm); (case hp => (repeat' (first | exact List.Mem.head _ | assumption | refine' List.Mem.tail _ ?_))))))
local macro_rules | `(tactic| walk_at "call builtin:min") => `(tactic| (k_here; k_dflt (refine' min3 ?hk1 ?hk2 ?hk3 ?_; (case hk1 => rfl); (case hk2 => k_asm); (case hk3 => k_asm)); intro h' tk' t' kmin hkmin F' N'))
local macro_rules | `(tactic| walk_at "subscriptTail") => `(tactic| (k_here; (with_reducible show wpAny _ _ (subscriptTail (PySem.Expr.List _ _) (PySem.Expr.Slice _ _ none _) (Value.ref _) (Value.ref _)) _ _ _); k_dflt (refine kba_turn (value' := PySem.Expr.Name (PySem.Str.ofString "_") ⟨0, 0, 0, 0⟩) (fun _ => rfl) ?_); k_dflt (refine' kmk_slice_ints (ns := [0, 1, 9]) ?hF ?hN ?hl ?hp ?hq ?hi ?hm ?hc ?_ ?hs ?ht ?hz; (case hF => k_asm); (case hN => k_asm); (case hl => kmk_list); (case hp => kmk_part); (case hq => kmk_part); (case hi => exact .cons _ _ (.cons _ _ (.cons _ _ .nil))); (case hm => exact kmk_from (.cons _ _ (.cons _ _ (.cons _ _ .nil))) (by assumption)); (case hc => exact rfl); (case hz => exact Nat.le_of_ble_eq_true rfl); (case ht => kmk_pure); (case hs => with_unfolding_all rfl)); intro D' ws' h' F' N' l1 hI' hC' hL'; (try k_lt l1); (try k_sweep)))

abbrev lawE (L fa : Addr) (cd : Value) : Env := envOfC "law" lawScope L fa cd
abbrev lawA (L fa : Addr) (cd : Value) : Around := callerA.deeper (envOfC "law" lawScope L fa cd)
abbrev PR : Program := PySem.Challenge.rw_iy0015_01.row.prog

def rowIn (T : List (Addr × Obj)) (ys : List Str) (v : Value) : Prop := ∃ a vs n, v = .ref a ∧ (a, W.listOf vs.toArray n) ∈ T ∧ StrsAre vs ys

theorem dr_itemR {prog : Program} {w : World} {A : Around} {E : Value → Shared → Prop} {s : Shared} {h₀ : Heap} {L d : Addr} {news T T' : List (Addr × Obj)} {o : Obj} {kv : List (Int × Value)} {g : List (Int × List Str)} {k : Int} {t : Tok} {x : List Str} {value slice : PySem.Expr} {Q : Value → Shared → Prop} (N : News h₀ L s.heap news) (hp : (d, o) ∈ news) (hd : o.IsDictOf (PySem.intKind prog w) kv) (hr : Rep (rowIn T) kv g) (hT : ∀ p ∈ T, p ∈ T') (hl : aget g k = some x)
    (h : ∀ a vs n, aget kv k = some (.ref a) → (a, W.listOf vs.toArray n) ∈ T → (a, W.listOf vs.toArray n) ∈ T' → StrsAre vs x → Q (.ref a) { s with toks := s.toks + 1 })
    (hs : subscripted slice false (.ref d) (.int k t) = operate [.ref d, .int k t] (getItem (.ref d) (.int k t)) := by with_unfolding_all rfl) (hg : ∀ r, letTemporaryGo value (.ref d) r = pure () := by intro _; with_unfolding_all rfl) :
    wpAny (model prog w) A (subscriptTail value slice (.ref d) (.int k t)) Q E s := by
  obtain ⟨v, hv, a, vs, n, rfl, hm, hs'⟩ := hr.some hl
  exact kda_item N hp hd (intKind_is _ _ _ _) hv (h a vs n hv hm (hT _ hm) hs') hs hg
local macro_rules | `(tactic| walk_at "subscriptTail") => `(tactic| (k_here; (with_reducible show wpAny _ _ (subscriptTail _ _ (Value.ref _) (Value.int _ _)) _ _ _); k_dflt (refine' dr_itemR ?hN ?hp ?hd ?hr ?hT ?hl ?_; (case hN => k_asm); (case hp => k_mem); (case hd => assumption); (case hr => assumption); (case hT => assumption); (case hl => assumption)); intro a' vs' n' hv' hm' hm2' hs'))

/-! the ledger with an object of it put anew -/
def put (T : List (Addr × Obj)) (a : Addr) (o : Obj) : List (Addr × Obj) := T.map fun p => if p.1 = a then (a, o) else p
theorem put_adr (T : List (Addr × Obj)) (a : Addr) (o : Obj) : (put T a o).map (·.1) = T.map (·.1) := by
  unfold put
  rw [List.map_map]
  refine List.map_congr_left fun p _ => ?_
  show (if p.1 = a then (a, o) else p).1 = p.1
  split
  · rename_i h; exact h.symm
  · rfl
theorem put_new {T : List (Addr × Obj)} {a : Addr} {o o' : Obj} (h : (a, o') ∈ T) : (a, o) ∈ put T a o := List.mem_map.mpr ⟨(a, o'), h, by rw [if_pos rfl]⟩
theorem put_old {T : List (Addr × Obj)} {a b : Addr} {o o' : Obj} (hb : b ≠ a) (h : (b, o') ∈ T) : (b, o') ∈ put T a o := List.mem_map.mpr ⟨(b, o'), h, by rw [if_neg hb]⟩
theorem put_mem {T : List (Addr × Obj)} {a : Addr} {o : Obj} {p : Addr × Obj} (h : p ∈ put T a o) : p = (a, o) ∨ (p.1 ≠ a ∧ p ∈ T) := by
  obtain ⟨q, hq, e⟩ := List.mem_map.mp h
  by_cases c : q.1 = a
  · rw [if_pos c] at e; exact .inl e.symm
  · rw [if_neg c] at e; subst e; exact .inr ⟨c, hq⟩
theorem put_sub {T T' : List (Addr × Obj)} {a : Addr} {o : Obj} (h : ∀ p ∈ T, p ∈ T') : ∀ p ∈ put T a o, p ∈ put T' a o := fun p hp => by
  obtain ⟨q, hq, e⟩ := List.mem_map.mp hp
  exact List.mem_map.mpr ⟨q, h q hq, e⟩

theorem app_tail {prog : Program} {w : World} {A : Around} {E : Value → Shared → Prop} {s : Shared} {h₀ : Heap} {L a : Addr} {m : Str → Option Value} {pre T : List (Addr × Obj)} {vs : List Value} {n : Nat} {x : Value} {Q : Value → Shared → Prop} (F : Fr h₀ L s.heap m) (N : News h₀ L s.heap (pre ++ T)) (hm : (a, W.listOf vs.toArray n) ∈ T) (hpre : ∀ p ∈ pre, p.1 ≠ a) (hz : vs.length ≤ 1000)
    (h : ∀ h', Fr h₀ L h' m → News h₀ L h' (pre ++ put T a (W.listOf (vs ++ [x]).toArray (n + 1))) → Q .none { s with heap := h' }) : wpAny (model prog w) A (call (.builtin "list.append") [.ref a, x]) Q E s := by
  have N1 : News h₀ L s.heap ((a, W.listOf vs.toArray n) :: (pre ++ T).filter fun p => decide (p.1 ≠ a)) := fun p hp => by
    rcases List.mem_cons.mp hp with rfl | hp
    · exact N _ (List.mem_append_right _ hm)
    · exact N p (List.mem_filter.mp hp).1
  refine q_append F N1 (.head fun p hp => by simpa using (List.mem_filter.mp hp).2) hz fun h' F' N' => h h' F' fun p hp => ?_
  have old : ∀ q ∈ pre ++ T, q.1 ≠ a → h'.get? q.1 = some q.2 ∧ q.1 ≠ L ∧ h₀.get? q.1 = none := fun q hq hne => N' q (List.mem_cons_of_mem _ (List.mem_filter.mpr ⟨hq, by simpa using hne⟩))
  rcases List.mem_append.mp hp with hp | hp
  · exact old p (List.mem_append_left _ hp) (hpre p hp)
  · rcases put_mem hp with rfl | ⟨h1, h2⟩
    · exact N' _ (List.Mem.head _)
    · exact old p (List.mem_append_right _ h2) h1

theorem PairsIn.mono' {led led' : List (Addr × Obj)} (hm : ∀ a o, o.cls = .type "tuple" → (a, o) ∈ led → (a, o) ∈ led') : ∀ {vs : List Value} {l : List (Int × Str)}, PairsIn led vs l → PairsIn led' vs l
  | [], [], _ => trivial
  | [], _ :: _, h => h.elim
  | _ :: _, [], h => h.elim
  | _ :: _, _ :: _, ⟨⟨a, t, t', n, e, m⟩, r⟩ => ⟨⟨a, t, t', n, e, hm _ _ rfl m⟩, r.mono' hm⟩

theorem pw_ne {l : List (Int × Value)} (h : l.Pairwise fun p q => p.2 ≠ q.2) {p q : Int × Value} (hp : p ∈ l) (hq : q ∈ l) (e : p.2 = q.2) : p = q := by
  induction l with
  | nil => cases hp
  | cons a l ih =>
    rw [List.pairwise_cons] at h
    rcases List.mem_cons.mp hp with h1 | h1
    · rcases List.mem_cons.mp hq with h2 | h2
      · rw [h1, h2]
      · exact absurd (h1 ▸ e) (h.1 q h2)
    · rcases List.mem_cons.mp hq with h2 | h2
      · exact absurd (h2 ▸ e.symm) (h.1 p h1)
      · exact ih h.2 h1 h2
theorem mem_aget {K V : Type} [DecidableEq K] {l : List (K × V)} (hn : (l.map (·.1)).Nodup) {k : K} {v : V} (h : (k, v) ∈ l) : aget l k = some v := by
  induction l with
  | nil => cases h
  | cons p l ih =>
    rw [List.map_cons, List.nodup_cons] at hn
    rw [aget_cons]
    rcases List.mem_cons.mp h with rfl | h
    · rw [if_pos rfl]
    · rw [if_neg (fun c => hn.1 (List.mem_map.mpr ⟨(k, v), h, c.symm⟩))]; exact ih hn.2 h

def grow (g : List (Int × List Str)) (le : Int) (row : List Str) : List (Int × List Str) := g.map fun p => if p.1 = le then (p.1, row) else p
theorem grow_keys (g : List (Int × List Str)) (le : Int) (row : List Str) : (grow g le row).map (·.1) = g.map (·.1) := by
  unfold grow; rw [List.map_map]; refine List.map_congr_left fun p _ => ?_
  show (if p.1 = le then (p.1, row) else p).1 = p.1
  split <;> rfl
theorem grow_mem {g : List (Int × List Str)} {le : Int} {row row0 : List Str} (h0 : (le, row0) ∈ g) {l : Int} {y : List Str} : (l, y) ∈ grow g le row ↔ (l = le ∧ y = row) ∨ (l ≠ le ∧ (l, y) ∈ g) := by
  unfold grow
  rw [List.mem_map]
  constructor
  · rintro ⟨p, hp, e⟩
    by_cases c : p.1 = le
    · rw [if_pos c] at e; cases e; exact .inl ⟨c, rfl⟩
    · rw [if_neg c] at e; subst e; exact .inr ⟨c, hp⟩
  · rintro (⟨rfl, rfl⟩ | ⟨c, h⟩)
    · exact ⟨(l, row0), h0, by rw [if_pos rfl]⟩
    · exact ⟨(l, y), h, by rw [if_neg c]⟩
theorem grow_rights {le : Int} {row : List Str} {r : Str} : ∀ {g : List (Int × List Str)}, (g.map (·.1)).Nodup → aget g le = some row → (rights (grow g le (row ++ [r]))).length = (rights g).length + 1
  | [], _, h => by cases h
  | p :: g, hn, h => by
    rw [List.map_cons, List.nodup_cons] at hn
    rw [aget_cons] at h
    by_cases c : p.1 = le
    · rw [if_pos c] at h
      cases h
      have e : grow g le (p.2 ++ [r]) = g := by
        unfold grow
        conv => rhs; rw [← List.map_id g]
        refine List.map_congr_left fun q hq => ?_
        rw [if_neg (fun e : q.1 = le => hn.1 (List.mem_map.mpr ⟨q, hq, e.trans c.symm⟩))]
        rfl
      show (rights ((if p.1 = le then (p.1, p.2 ++ [r]) else p) :: grow g le (p.2 ++ [r]))).length = _
      rw [e, if_pos c]
      simp [rights]
      omega
    · rw [if_neg c] at h
      have ih := grow_rights (r := r) hn.2 h
      show (rights ((if p.1 = le then (p.1, row ++ [r]) else p) :: grow g le (row ++ [r]))).length = _
      rw [if_neg c]
      simp only [rights, List.flatMap_cons, List.length_append] at ih ⊢
      omega
theorem rep_grow {T T' : List (Addr × Obj)} {a : Addr} {vs : List Value} {n : Nat} {le : Int} {row' : List Str} (hnew : (a, W.listOf vs.toArray n) ∈ T') (hs : StrsAre vs row') (hold : ∀ b o, b ≠ a → (b, o) ∈ T → (b, o) ∈ T') {kv : List (Int × Value)} {g : List (Int × List Str)} (h : Rep (rowIn T) kv g)
    (h1 : ∀ p ∈ kv, p.1 ≠ le → p.2 ≠ .ref a) (h2 : ∀ p ∈ kv, p.1 = le → p.2 = .ref a) : Rep (rowIn T') kv (grow g le row') := by
  induction h with
  | nil => exact .nil
  | @cons k v d x y hr _ ih =>
    have ih' := ih (fun p hp => h1 p (List.mem_cons_of_mem _ hp)) (fun p hp => h2 p (List.mem_cons_of_mem _ hp))
    show Rep (rowIn T') ((k, v) :: x) ((if k = le then (k, row') else (k, d)) :: grow y le row')
    by_cases c : k = le
    · rw [if_pos c]
      have := h2 (k, v) List.mem_cons_self c
      dsimp only at this
      subst this
      exact .cons ⟨a, vs, n, rfl, hnew, hs⟩ ih'
    · rw [if_neg c]
      obtain ⟨b, ws, n', rfl, hm, hs'⟩ := hr
      have hb : b ≠ a := fun e => h1 (k, .ref b) List.mem_cons_self c (by rw [e])
      exact .cons ⟨b, ws, n', rfl, hold _ _ hb hm, hs'⟩ ih'
theorem rights_le {x : Int × List Str} : ∀ {g : List (Int × List Str)}, x ∈ g → x.2.length ≤ (rights g).length
  | [], hx => nomatch hx
  | p :: g, hx => by
    simp only [rights, List.flatMap_cons, List.length_append]
    rcases List.mem_cons.mp hx with rfl | hx
    · omega
    · have := rights_le hx
      simp only [rights] at this
      omega
theorem strs_snoc {vs : List Value} {ys : List Str} (h : StrsAre vs ys) (y : Str) (t : Tok) : StrsAre (vs ++ [.str y t]) (ys ++ [y]) := by
  induction h with
  | nil => exact .cons _ _ .nil
  | cons x t _ ih => exact .cons x t ih

structure InvA (g : List (Int × List Str)) (dl : List (Int × Str)) (i : Nat) : Prop where
  nd : (g.map (·.1)).Nodup
  len : g.length ≤ i
  mem : ∀ l r, (l, r) ∈ dl ↔ ∃ row, (l, row) ∈ g ∧ r ∈ row
  dlen : dl.length ≤ 20
  rl : (rights g).length ≤ dl.length
  ok : ∀ p ∈ dl, PyData.strOk p.2 = true

structure LedA (w : World) (L ra da : Addr) (T : List (Addr × Obj)) (oR : Obj) (kv : List (Int × Value)) (dvs : List Value) (g : List (Int × List Str)) (dl : List (Int × Str)) : Prop where
  off : OwnOff T [L + 1, L + 1 + 1, L + 1 + 1 + 1, ra, da]
  dict : oR.IsDictOf (PySem.intKind PR w) kv
  rows : Rep (rowIn T) kv g
  apart : kv.Pairwise fun p q => p.2 ≠ q.2
  drawn : PairsIn T dvs dl


def pd (p : Int × Str) : Dat := .tuple [.int p.1, .str p.2]
theorem pd_inj {p q : Int × Str} (h : pd p = pd q) : p = q := by
  obtain ⟨a, b⟩ := p; obtain ⟨c, d⟩ := q
  simp only [pd, Dat.tuple.injEq, List.cons.injEq, Dat.int.injEq, Dat.str.injEq, and_true] at h
  rw [h.1, h.2]
theorem pd_mem {p : Int × Str} {l : List (Int × Str)} : pd p ∈ l.map pd ↔ p ∈ l := by
  rw [List.mem_map]
  exact ⟨fun ⟨q, hq, e⟩ => pd_inj e ▸ hq, fun h => ⟨p, h, rfl⟩⟩
theorem PairsIn.dat {T : List (Addr × Obj)} : ∀ {vs : List Value} {l : List (Int × Str)}, PairsIn T vs l → DatAll T vs (l.map pd)
  | [], [], _ => .nil
  | [], _ :: _, h => h.elim
  | _ :: _, [], h => h.elim
  | v :: vs, p :: l, h => by
    obtain ⟨⟨a, t, t', n, rfl, hm⟩, r⟩ := h
    exact .cons (.tuple (vs := [.int p.1 t, .str p.2 t']) hm (.cons (.int _ _) (.cons (.str _ _) .nil))) r.dat
theorem pd_ok {l : List (Int × Str)} (h : ∀ p ∈ l, PyData.strOk p.2 = true) : ∀ d ∈ l.map pd, kqdOk 8 d = true := by
  intro d hd
  obtain ⟨p, hp, rfl⟩ := List.mem_map.mp hd
  simp [pd, kqdOk, h p hp]

theorem edge_notin {prog : Program} {w : World} {A : Around} {E : Value → Shared → Prop} {s : Shared} {h₀ : Heap} {L e da : Addr} {led : List (Addr × Obj)} {le : Int} {r : Str} {t1 t2 : Tok} {nt dn : Nat} {dvs : List Value} {dl : List (Int × Str)} {Q : Value → Shared → Prop}
    (N : News h₀ L s.heap led) (me : (e, ({ cls := .type "tuple", data := .seq #[.int le t1, .str r t2] nt } : Obj)) ∈ led) (md : (da, W.listOf dvs.toArray dn) ∈ led) (D : PairsIn led dvs dl) (ok : ∀ p ∈ dl, PyData.strOk p.2 = true) (hr : PyData.strOk r = true) (hu : A.units + 64 < cLine)
    (h1 : (le, r) ∈ dl → Q (.bool false) s) (h2 : (le, r) ∉ dl → Q (.bool true) s) : wpAny (model prog w) A (compareOp .NotIn (.ref e) (.ref da)) Q E s := by
  classical
  refine kqd_notIn N md rfl rfl D.dat (fun _ h => h) (.tuple (vs := [.int le t1, .str r t2]) me (.cons (.int _ _) (.cons (.str _ _) .nil))) (fun _ h => h) (pd_ok ok) (by simp [kqdOk, hr]) hu ?_
  by_cases hin : (le, r) ∈ dl
  · have hm : Dat.tuple [.int le, .str r] ∈ dl.map pd := pd_mem.mpr hin
    rw [decide_eq_true hm]; exact h1 hin
  · have hm : ¬ Dat.tuple [.int le, .str r] ∈ dl.map pd := fun h => hin (pd_mem.mp h)
    rw [decide_eq_false hm]; exact h2 hin

def forBody : List Stmt := match LB[2]! with | .For _ _ b _ _ => b | _ => []
abbrev named (L ra da : Addr) (c1 c2 c3 oR : Obj) (dvs : List Value) (dn : Nat) : List (Addr × Obj) := [(L + 1, c1), (L + 1 + 1, c2), (L + 1 + 1 + 1, c3), (ra, oR), (da, W.listOf dvs.toArray dn)]
def JA (w : World) (L ra da : Addr) (c1 c2 c3 : Obj) (D' : Addr) (i : Nat) (_m : Str → Option Value) (nx : List (Addr × Obj)) : Prop :=
  ∃ Tl oR' kv dvs dn g dl, nx = (L + 1, c1) :: (L + 1 + 1, c2) :: (L + 1 + 1 + 1, c3) :: (ra, oR') :: (da, W.listOf dvs.toArray dn) :: Tl ∧ LedA w L ra da Tl oR' kv dvs g dl ∧ InvA g dl i ∧ ∀ p ∈ kv, p.2 ≠ .ref D'

set_option maxHeartbeats 8000000 in
theorem turn2 (hrow : PySem.Challenge.rw_iy0015_01 = PySem.Challenge.rw_iy0015_01) {w : World} {loose : List Str} {mean : ExcName → Option Value} {mg mb : Str → Option Value} {h₀ : Heap} {L fa ra da e D' : Addr} {cd : Value} {u : Str → Option Value} {s : Shared} {Q : Flow → Shared → Prop} {E : Value → Shared → Prop} {c1 c2 c3 oR : Obj} {dvs ws : List Value} {dn i : Nat}
    {Tl own : List (Addr × Obj)} {h2 : Heap} {tk2 : Nat} {le x : Int} {r : Str} {tl tx t1 t2 : Tok} {kv : List (Int × Value)} {g : List (Int × List Str)} {dl : List (Int × Str)} {row : List Str}
    (X : (hd.heap_39 w.params).In h₀) (T : Top hd.view_39 loose mean mg mb h₀) (hE : PassesOwn (model PySem.Challenge.rw_iy0015_01.row.prog w) (lawA L fa cd) (lawE L fa cd) E)
    (F : Fr h₀ L h2 (fun y => if y = "edge" then some (.ref e) else if y = "left" then some (.int le tl) else if y = "number" then some (.int x tx) else u y))
    (N : News h₀ L h2 ((e, { cls := .type "tuple", data := .seq #[.int le t1, .str r t2] }) :: (L + 1, c1) :: (L + 1 + 1, c2) :: (L + 1 + 1 + 1, c3) :: (ra, oR) :: (da, W.listOf dvs.toArray dn) :: (Tl ++ own)))
    (k1 : c1.data = .cell (some (.ref ra))) (k2 : c2.data = .cell (some (.ref da))) (lra : L + 1 + 1 + 1 < ra) (lda : ra < da) (lo : (ra == sysModules) = false)
    (hle : L + 1 + 1 + 1 < e ∧ ra < e ∧ da < e) (he : ∀ p ∈ Tl ++ own, p.1 ≠ e) (hoff : OwnOff own ((named L ra da c1 c2 c3 oR dvs dn ++ Tl).map (·.1)))
    (LA : LedA w L ra da Tl oR kv dvs g dl) (IA : InvA g dl (i + 1)) (hD : (D', W.listOf ws.toArray 0) ∈ Tl) (hne : ∀ p ∈ kv, p.2 ≠ .ref D')
    (hrw : aget g le = some row) (hr : PyData.strOk r = true) :
    wpAny (model PySem.Challenge.rw_iy0015_01.row.prog w) (lawA L fa cd) (execs (forBody.drop 3) (lawE L fa cd))
      (InvPostG h₀ L (fun m' nx => (D', W.listOf ws.toArray 0) ∈ nx ∧ JA w L ra da c1 c2 c3 D' (i + 1) m' nx) own s Q) E { s with heap := h2, toks := tk2 } := by
  unfold lawA lawE at *
  obtain ⟨sc, hsc⟩ : ∃ sc, sc = lawScope := ⟨_, rfl⟩
  rw [← hsc] at hE ⊢
  conv at hsc => rhs; whnf
  subst hsc
  conv in (List.drop 3 forBody) => whnf
  revert X hrow
  w_top off
  k_fill
  intro hrow X
  have offT : OwnOff (Tl ++ own) [L + 1, L + 1 + 1, L + 1 + 1 + 1, ra, da] := by
    intro p hp b hb
    rcases List.mem_append.mp hp with hp | hp
    · exact LA.off p hp b hb
    · refine hoff p hp b ?_
      simp only [List.mem_cons, List.not_mem_nil, or_false] at hb
      simp only [List.map_append, List.map_cons, List.mem_append, List.mem_cons]
      rcases hb with rfl | rfl | rfl | rfl | rfl <;> simp
  obtain ⟨T', hT'⟩ : ∃ T', T' = Tl ++ own := ⟨_, rfl⟩
  rw [← hT'] at N he offT
  have hTl : ∀ p ∈ Tl, p ∈ T' := fun p hp => hT' ▸ List.mem_append_left _ hp
  have hTo : ∀ p ∈ own, p ∈ T' := fun p hp => hT' ▸ List.mem_append_right _ hp
  have LR := LA.rows
  have LD := LA.dict
  have hz : dvs.length ≤ 1000 := by have := LA.drawn.length; have := IA.dlen; omega
  obtain ⟨q1, q2, q3⟩ := hle
  have w1 := ltN q1
  have w2 := ltN q2
  have w3 := ltN q3
  have w4 := ltN lra
  have w5 := ltN lda
  -- the end without an edge
  have stop : ∀ tk m', Fr h₀ L h2 m' → InvEndG h₀ L (fun m' nx => (D', W.listOf ws.toArray 0) ∈ nx ∧ JA w L ra da c1 c2 c3 D' (i + 1) m' nx) own s { s with heap := h2, toks := tk } := fun tk m' F' =>
    ⟨h2, tk, m', _, (L + 1, c1) :: (L + 1 + 1, c2) :: (L + 1 + 1 + 1, c3) :: (ra, oR) :: (da, W.listOf dvs.toArray dn) :: Tl, rfl, F', N, (fun p hp => by
      refine List.mem_cons_of_mem _ ?_
      simp only [List.mem_cons] at hp ⊢
      rcases hp with h | h | h | h | h | h
      · (repeat (first | with_reducible exact Or.inl h | with_reducible exact h | refine Or.inr ?_))
      · (repeat (first | with_reducible exact Or.inl h | with_reducible exact h | refine Or.inr ?_))
      · (repeat (first | with_reducible exact Or.inl h | with_reducible exact h | refine Or.inr ?_))
      · (repeat (first | with_reducible exact Or.inl h | with_reducible exact h | refine Or.inr ?_))
      · (repeat (first | with_reducible exact Or.inl h | with_reducible exact h | refine Or.inr ?_))
      · simp [hTl p h]), (fun p hp => by simp [hTo p hp]), hoff, by simp [hD], Tl, oR, kv, dvs, dn, g, dl, rfl, LA, IA, hne⟩
  k_steps
  rotate_left
  · exact stop _ _ (by assumption)
  unfold Held
  refine edge_notin N (by k_mem) (by k_mem) (LA.drawn.mono fun p hp => by simp [hTl p hp]) IA.ok hr (by ke_room) (fun hin => ?_) (fun hin => ?_)
  · k_steps
    exact stop _ _ (by assumption)
  k_steps
  rotate_left
  · exact stop _ _ (by assumption)
  unfold Held
  refine q_append (by assumption) N (.tail (by k_ne) (.tail (by k_ne) (.tail (by k_ne) (.tail (by k_ne) (.tail (by k_ne) (.head fun p hp => offT p hp da (by simp))))))) hz ?_
  intro h3 F3 N3
  k_steps
  rename_i a vs n hv hm hm2 hs
  unfold Held
  have hnam : OwnOff Tl [L + 1, L + 1 + 1, L + 1 + 1 + 1, ra, da] := LA.off
  have hea : a ≠ e := he _ hm2
  have hna : ∀ b ∈ [L + 1, L + 1 + 1, L + 1 + 1 + 1, ra, da], b ≠ a := fun b hb q => hnam _ hm b hb q.symm
  have hvs : vs.length ≤ 1000 := by
    have z1 := hs.length
    have z2 := IA.rl
    have z3 : row.length ≤ (rights g).length := by
      exact rights_le (aget_mem hrw)
    have := IA.dlen
    omega
  refine app_tail (pre := [_, _, _, _, _, _]) (by assumption) N3 hm2 ?_ hvs ?_
  · intro p hp
    simp only [List.mem_cons, List.not_mem_nil, or_false] at hp
    rcases hp with rfl | rfl | rfl | rfl | rfl | rfl
    · exact fun q => hea q.symm
    · exact hna _ (by simp)
    · exact hna _ (by simp)
    · exact hna _ (by simp)
    · exact hna _ (by simp)
    · exact hna _ (by simp)
  intro h4 F4 N4
  simp only [List.cons_append, List.nil_append] at N4
  k_steps
  have hkv : (le, Value.ref a) ∈ kv := aget_mem hv
  have hkn : (kv.map (·.1)).Nodup := by obtain ⟨_, _, _, _, _, _, hn⟩ := LD; exact hn
  have hlt : dl.length < 20 := by have := LA.drawn.length; omega
  have hoa : ∀ p ∈ own, p.1 ≠ a := fun p hp => hoff p hp a (List.mem_map.mpr ⟨_, List.mem_append_right _ hm, rfl⟩)
  have hDa : D' ≠ a := fun q => hne _ hkv (by rw [q])
  have huniq : ∀ b o, o.cls = .type "tuple" → (b, o) ∈ Tl → b ≠ a := by
    rintro b o hc hb rfl
    have z1 := (N _ (List.Mem.tail _ (List.Mem.tail _ (List.Mem.tail _ (List.Mem.tail _ (List.Mem.tail _ (List.Mem.tail _ (hTl _ hb)))))))).1
    have z2 := (N _ (List.Mem.tail _ (List.Mem.tail _ (List.Mem.tail _ (List.Mem.tail _ (List.Mem.tail _ (List.Mem.tail _ hm2))))))).1
    rw [z1] at z2
    cases z2
    simp at hc
  have hlr : (le, r) ∈ dl → False := hin
  refine ⟨h4, _, _, _, (L + 1, c1) :: (L + 1 + 1, c2) :: (L + 1 + 1 + 1, c3) :: (ra, oR) :: (da, W.listOf (dvs ++ [Value.ref e]).toArray (dn + 1)) :: (e, { cls := .type "tuple", data := .seq #[.int le t1, .str r t2] }) :: put Tl a (W.listOf (vs ++ [Value.str r t2]).toArray (n + 1)), rfl, by assumption, N4, ?_, ?_, ?_, ?_, _, oR, kv, _, _, grow g le (row ++ [r]), dl ++ [(le, r)], rfl, ⟨?_, LD, ?_, LA.apart, ?_⟩, ⟨?_, ?_, ?_, ?_, ?_, ?_⟩, hne⟩
  · intro p hp
    simp only [List.mem_cons] at hp ⊢
    rcases hp with h | h | h | h | h | h | h
    · (repeat (first | with_reducible exact Or.inl h | with_reducible exact h | refine Or.inr ?_))
    · (repeat (first | with_reducible exact Or.inl h | with_reducible exact h | refine Or.inr ?_))
    · (repeat (first | with_reducible exact Or.inl h | with_reducible exact h | refine Or.inr ?_))
    · (repeat (first | with_reducible exact Or.inl h | with_reducible exact h | refine Or.inr ?_))
    · (repeat (first | with_reducible exact Or.inl h | with_reducible exact h | refine Or.inr ?_))
    · (repeat (first | with_reducible exact Or.inl h | with_reducible exact h | refine Or.inr ?_))
    · simp [put_sub hTl p h]
  · intro p hp
    simp only [List.mem_cons]
    have := put_old (o := W.listOf (vs ++ [Value.str r t2]).toArray (n + 1)) (hoa p hp) (hTo p hp)
    simp [this]
  · intro p hp b hb
    simp only [List.map_cons, List.mem_cons, put_adr] at hb
    rcases hb with h | h | h | h | h | h | h
    · exact h ▸ hoff p hp _ (by simp)
    · exact h ▸ hoff p hp _ (by simp)
    · exact h ▸ hoff p hp _ (by simp)
    · exact h ▸ hoff p hp _ (by simp)
    · exact h ▸ hoff p hp _ (by simp)
    · exact h ▸ he p (hTo p hp)
    · exact hoff p hp b (by rw [List.map_append]; exact List.mem_append_right _ h)
  · simp only [List.mem_cons]
    have := put_old (o := W.listOf (vs ++ [Value.str r t2]).toArray (n + 1)) hDa hD
    simp [this]
  · intro p hp b hb
    rcases List.mem_cons.mp hp with h | h
    · simp only [List.mem_cons, List.not_mem_nil, or_false] at hb
      rw [h]
      refine neN ?_
      dsimp only
      rcases hb with h | h | h | h | h
      · rw [h]; omega
      · rw [h]; omega
      · rw [h]; omega
      · rw [h]; omega
      · rw [h]; omega
    · have : p.1 ∈ (put Tl a (W.listOf (vs ++ [Value.str r t2]).toArray (n + 1))).map (·.1) := List.mem_map_of_mem h
      rw [put_adr] at this
      obtain ⟨q, hq, e1⟩ := List.mem_map.mp this
      exact e1 ▸ LA.off q hq b hb
  · refine rep_grow (vs := vs ++ [Value.str r t2]) (n := n + 1) (List.mem_cons_of_mem _ (put_new hm)) (strs_snoc hs r t2) (fun b o hb h => List.mem_cons_of_mem _ (put_old hb h)) LR ?_ ?_
    · intro p hp hk hv'
      exact hk (congrArg Prod.fst (pw_ne LA.apart hp hkv hv'))
    · intro p hp hk
      have h1 : aget kv le = some p.2 := aget_of_mem hkn (by rw [← hk]; exact hp)
      rw [hv] at h1
      exact (Option.some.inj h1).symm
  · exact PairsIn.snoc (p := (le, r)) (List.Mem.head _) (LA.drawn.mono' fun b o hc hb => List.mem_cons_of_mem _ (put_old (huniq b o hc hb) hb))
  · rw [grow_keys]; exact IA.nd
  · have := IA.len
    have e1 := congrArg List.length (grow_keys g le (row ++ [r]))
    simp only [List.length_map] at e1
    omega
  · intro l y
    rw [List.mem_append, List.mem_singleton, IA.mem]
    have hg : ∀ {y : List Str}, (l, y) ∈ grow g le (row ++ [r]) ↔ _ := fun {y} => grow_mem (row := row ++ [r]) (aget_mem hrw) (l := l) (y := y)
    constructor
    · rintro (⟨z, h1, h2⟩ | h)
      · by_cases c : l = le
        · subst c
          have := aget_of_mem IA.nd h1
          rw [hrw] at this
          obtain rfl := Option.some.inj this
          exact ⟨row ++ [r], hg.mpr (.inl ⟨rfl, rfl⟩), List.mem_append_left _ h2⟩
        · exact ⟨z, hg.mpr (.inr ⟨c, h1⟩), h2⟩
      · cases h
        exact ⟨row ++ [r], hg.mpr (.inl ⟨rfl, rfl⟩), by simp⟩
    · rintro ⟨z, h1, h2⟩
      rcases hg.mp h1 with ⟨rfl, rfl⟩ | ⟨c, h3⟩
      · rcases List.mem_append.mp h2 with h | h
        · exact .inl ⟨row, aget_mem hrw, h⟩
        · rw [List.mem_singleton.mp h]; exact .inr rfl
      · exact .inl ⟨z, h3, h2⟩
  · rw [List.length_append, List.length_singleton]; omega
  · rw [grow_rights IA.nd hrw, List.length_append, List.length_singleton]
    have := IA.rl
    omega
  · intro p hp
    rcases List.mem_append.mp hp with h | h
    · exact IA.ok p h
    · rw [List.mem_singleton.mp h]; exact hr

end HKP
end SHKLawA2

section SHKLawA
set_option maxRecDepth 100000
namespace HKP
open PySem PySem.W PyProof.Rows PySem.Spec PySem.Calls
local macro_rules | `(tactic| walk_at "pyIter ref") => `(tactic| (k_here; refine held_of ?_))
local macro_rules | `(tactic| walk_at "exec For") => `(tactic| (k_here; refine held_of ?_))
local macro_rules | `(tactic| walk_at "compareOp NotIn int ref") => `(tactic| (k_here; refine held_of ?_))
local macro_rules | `(tactic| walk_at "compareOp NotIn ref ref") => `(tactic| (k_here; refine held_of ?_))
local macro_rules | `(tactic| walk_at "setItem ref int") => `(tactic| (k_here; refine held_of ?_))
local macro_rules | `(tactic| walk_at "call builtin:list.append") => `(tactic| (k_here; refine held_of ?_))
local macro_rules | `(tactic| walk_at "call builtin:len") => `(tactic| (k_here; (with_reducible show wpAny _ _ (call (Value.builtin "len") [Value.ref _]) _ _ _); k_dflt (refine' q_len ?hN ?hp ?hz ?_; (case hN => k_asm); (case hp => k_mem); (case hz => assumption)); intro _))
local macro_rules | `(tactic| walk_at "getMethod ref") => `(tactic| (k_here; (with_reducible show wpAny _ _ (getMethod (Value.ref _) (PySem.Str.ofString "append") _) _ _ _); k_dflt (refine' q_appendM ?hN ?hp ?_; (case hN => k_asm); (case hp => (repeat' (first | exact List.Mem.head _ | assumption | refine' List.Mem.tail _ ?_))))))
local macro_rules | `(tactic| walk_at "call builtin:min") => `(tactic| (k_here; k_dflt (refine' min3 ?hk1 ?hk2 ?hk3 ?_; (case hk1 => rfl); (case hk2 => k_asm); (case hk3 => k_asm)); intro h' tk' t' kmin hkmin F' N'))
local macro_rules | `(tactic| walk_at "subscriptTail") => `(tactic| (k_here; (with_reducible show wpAny _ _ (subscriptTail (PySem.Expr.List _ _) (PySem.Expr.Slice _ _ none _) (Value.ref _) (Value.ref _)) _ _ _); k_dflt (refine kba_turn (value' := PySem.Expr.Name (PySem.Str.ofString "_") ⟨0, 0, 0, 0⟩) (fun _ => rfl) ?_); k_dflt (refine' kmk_slice_ints (ns := [0, 1, 9]) ?hF ?hN ?hl ?hp ?hq ?hi ?hm ?hc ?_ ?hs ?ht ?hz; (case hF => k_asm); (case hN => k_asm); (case hl => kmk_list); (case hp => kmk_part); (case hq => kmk_part); (case hi => exact .cons _ _ (.cons _ _ (.cons _ _ .nil))); (case hm => exact kmk_from (.cons _ _ (.cons _ _ (.cons _ _ .nil))) (by assumption)); (case hc => exact rfl); (case hz => exact Nat.le_of_ble_eq_true rfl); (case ht => kmk_pure); (case hs => with_unfolding_all rfl)); intro D' ws' h' F' N' l1 hI' hC' hL'; (try k_lt l1); (try k_sweep)))

local macro_rules | `(tactic| walk_at "subscriptTail") => `(tactic| (k_here; (with_reducible show wpAny _ _ (subscriptTail _ _ (Value.ref _) (Value.int _ _)) _ _ _); k_dflt (refine' dr_itemR ?hN ?hp ?hd ?hr ?hT ?hl ?_; (case hN => k_asm); (case hp => k_mem); (case hd => assumption); (case hr => assumption); (case hT => assumption); (case hl => assumption)); intro a' vs' n' hv' hm' hm2' hs'))

local macro_rules | `(tactic| walk_at "execs cons") => `(tactic| (k_here; (with_reducible show wpAny _ _ (execs [Stmt.If (Expr.BoolOp _ _ _) _ _ _] _) _ _ _); refine held_of ?_))
theorem Rep.memv {K δ : Type} [DecidableEq K] {R : δ → Value → Prop} {kv : List (K × Value)} {l : List (K × δ)} (h : Rep R kv l) : ∀ p ∈ kv, ∃ d, R d p.2 := by
  induction h with
  | nil => intro p hp; cases hp
  | cons hr _ ih =>
    intro p hp
    rcases List.mem_cons.mp hp with rfl | hp
    · exact ⟨_, hr⟩
    · exact ih p hp
theorem news_rot {h₀ h : Heap} {L : Addr} {a b c1 c2 c3 d f : Addr × Obj} {T : List (Addr × Obj)} (N : News h₀ L h (a :: b :: c1 :: c2 :: c3 :: d :: f :: T)) : News h₀ L h (b :: c1 :: c2 :: c3 :: d :: f :: (a :: T)) := fun p hp => N p (by
  simp only [List.mem_cons] at hp ⊢
  rcases hp with h | h | h | h | h | h | h | h <;> (repeat (first | with_reducible exact Or.inl h | with_reducible exact h | refine Or.inr ?_)))
theorem aput_new {K V : Type} [DecidableEq K] {l : List (K × V)} {k : K} {v : V} (h : aget l k = none) : aput l k v = l ++ [(k, v)] := by
  unfold aput
  rw [if_neg]
  rw [any_iff, h]
  simp
theorem InvA.fresh {g : List (Int × List Str)} {dl : List (Int × Str)} {i : Nat} (I : InvA g dl i) {le : Int} (h : aget g le = none) : InvA (g ++ [(le, [])]) dl (i + 1) := by
  refine ⟨?_, ?_, fun l r => ?_, I.dlen, ?_, I.ok⟩
  · have := aput_nodup g le ([] : List Str) I.nd
    rwa [aput_new h] at this
  · have := I.len
    rw [List.length_append, List.length_singleton]; omega
  · rw [I.mem]
    constructor
    · rintro ⟨row, h1, h2⟩
      exact ⟨row, List.mem_append_left _ h1, h2⟩
    · rintro ⟨row, h1, h2⟩
      rcases List.mem_append.mp h1 with h1 | h1
      · exact ⟨row, h1, h2⟩
      · cases List.mem_singleton.mp h1; cases h2
  · have := I.rl
    simp only [rights, List.flatMap_append, List.flatMap_cons, List.flatMap_nil, List.append_nil] at this ⊢
    exact this
theorem item_ok (k : Int) (h : 0 ≤ k) (h' : k < 9) : PyData.strOk (Txt.item (Str.ofString "abcdefgh-") k) = true := by
  have : k = 0 ∨ k = 1 ∨ k = 2 ∨ k = 3 ∨ k = 4 ∨ k = 5 ∨ k = 6 ∨ k = 7 ∨ k = 8 := by omega
  rcases this with rfl | rfl | rfl | rfl | rfl | rfl | rfl | rfl | rfl <;> decide +kernel
set_option maxHeartbeats 8000000 in
theorem loopA (hrow : PySem.Challenge.rw_iy0015_01 = PySem.Challenge.rw_iy0015_01) {w : World} {loose : List Str} {mean : ExcName → Option Value} {mg mb : Str → Option Value} {h₀ : Heap} {L fa sl ra da : Addr} {cd : Value} {m : Str → Option Value} {s : Shared} {Q : Flow → Shared → Prop} {E : Value → Shared → Prop} {c1 c2 c3 oR : Obj} {vs : List Value} {ns : List Int}
    (X : (hd.heap_39 w.params).In h₀) (T : Top hd.view_39 loose mean mg mb h₀) (hE : PassesOwn (model PySem.Challenge.rw_iy0015_01.row.prog w) (lawA L fa cd) (lawE L fa cd) E)
    (F : Fr h₀ L s.heap (fun y => if y = "script" then some (.ref sl) else m y)) (hsl : h₀.IsList sl vs.toArray) (hI : IntsAre vs ns) (hlen : ns.length ≤ 63)
    (N : News h₀ L s.heap [(L + 1, c1), (L + 1 + 1, c2), (L + 1 + 1 + 1, c3), (ra, oR), (da, W.listOf #[] 0)]) (k1 : c1.data = .cell (some (.ref ra))) (k2 : c2.data = .cell (some (.ref da)))
    (hoR : oR.IsDictOf (PySem.intKind PySem.Challenge.rw_iy0015_01.row.prog w) []) (lra : L + 1 + 1 + 1 < ra) (lda : ra < da) (lo : (ra == sysModules) = false)
    (done : ∀ h' tk m' Tl oR' kv dvs dn g dl, Fr h₀ L h' m' → News h₀ L h' ((L + 1, c1) :: (L + 1 + 1, c2) :: (L + 1 + 1 + 1, c3) :: (ra, oR') :: (da, W.listOf dvs.toArray dn) :: Tl) → LedA w L ra da Tl oR' kv dvs g dl → InvA g dl 33 → Q .next { s with heap := h', toks := tk }) :
    wpAny (model PySem.Challenge.rw_iy0015_01.row.prog w) (lawA L fa cd) (exec (LB[2]!) (lawE L fa cd)) Q E s := by
  unfold lawA lawE at *
  obtain ⟨sc, hsc⟩ : ∃ sc, sc = lawScope := ⟨_, rfl⟩
  rw [← hsc] at hE ⊢
  conv at hsc => rhs; whnf
  subst hsc
  conv in (LB[2]!) => whnf
  revert X hrow
  w_top off
  k_fill
  intro hrow X
  (with_unfolding_all refine' For_invVF F ?k1 ?k2 ?_ (hE := hE); (case k1 => exact rfl); (case k2 => exact rfl))
  k_steps
  rename_i D' ws h1 F1 N1 hI1 l1
  unfold Held
  have hns : ws.length ≤ 33 := by
    rw [hI1.length, List.length_append, List.length_drop]
    have a1 := List.length_take_le 30 ns
    simp only [List.length_cons, List.length_nil]
    omega
  refine kdl_iter (vs := ws) (nn := 0) (news := (L + 1, c1) :: (L + 1 + 1, c2) :: (L + 1 + 1 + 1, c3) :: (ra, oR) :: (da, W.listOf #[] 0) :: [(D', W.listOf ws.toArray 0)]) (JA w L ra da c1 c2 c3 D') rfl ?hl F1 ?hN ?hj ?turn ?done
  case hl => simp
  case hN =>
    intro p hp
    refine N1 p ?_
    simp only [List.mem_cons, List.not_mem_nil, or_false] at hp ⊢
    rcases hp with rfl | rfl | rfl | rfl | rfl | rfl <;> simp
  case hj =>
    refine ⟨[(D', W.listOf ws.toArray 0)], oR, [], [], 0, [], [], rfl, ⟨?_, hoR, .nil, .nil, trivial⟩, ⟨.nil, Nat.le_refl _, by simp, by simp, by simp [rights], by simp⟩, by simp⟩
    intro p hp b hb
    obtain rfl := List.mem_singleton.mp hp
    simp only [List.mem_cons, List.not_mem_nil, or_false] at hb
    dsimp only
    refine neN ?_
    rcases hb with rfl | rfl | rfl | rfl | rfl <;> omega
  case done =>
    rintro m₁ nx h2 tk2 ⟨Tl, oR', kv, dvs, dn, g, dl, rfl, LA, IA, -⟩ F2 N2
    exact done h2 tk2 _ Tl oR' kv dvs dn g dl F2 N2 LA ⟨IA.nd, Nat.le_trans IA.len hns, IA.mem, IA.dlen, IA.rl, IA.ok⟩
  case turn =>
    rintro i v m₁ nx h2 tk2 own hv hoff hD0 ⟨Tl, oR', kv, dvs, dn, g, dl, rfl, LA, IA, hne⟩ F2 N2
    have hD : (D', W.listOf ws.toArray 0) ∈ Tl := by
      simp only [List.mem_cons, Prod.mk.injEq] at hD0
      rcases hD0 with h | h | h | h | h | h
      · exact absurd h.1 (neN (by omega))
      · exact absurd h.1 (neN (by omega))
      · exact absurd h.1 (neN (by omega))
      · exact absurd h.1 (neN (by omega))
      · exact absurd h.1 (neN (by omega))
      · exact h
    have hi33 : i < ws.length := (List.getElem?_eq_some_iff.mp hv).1
    obtain ⟨x, tx, rfl, hx⟩ := ints_item hI1 i v hv
    simp only [List.cons_append] at N2
    obtain ⟨T', hT'⟩ : ∃ T', T' = Tl ++ own := ⟨_, rfl⟩
    rw [← hT'] at N2
    have off2 : OwnOff T' [L + 1, L + 1 + 1, L + 1 + 1 + 1, ra, da] := by
      subst hT'
      intro p hp b hb
      rcases List.mem_append.mp hp with hp | hp
      · exact LA.off p hp b hb
      · refine hoff p hp b ?_
        simp only [List.mem_cons, List.not_mem_nil, or_false] at hb
        simp only [List.map_cons, List.mem_cons]
        rcases hb with rfl | rfl | rfl | rfl | rfl <;> simp
    have hTl : ∀ p ∈ Tl, p ∈ T' := fun p hp => hT' ▸ List.mem_append_left _ hp
    have LR := LA.rows.mono (R' := rowIn T') fun d v ⟨a, vs, n, e, hm, hs⟩ => ⟨a, vs, n, e, hTl _ hm, hs⟩
    have DR1 : DR (PySem.intKind PR w) (rowIn T') oR' g := ⟨kv, LA.dict, LR⟩
    k_steps
    rename_i e h3 l4 h4 F4 N4
    unfold Held
    have hle9 : 0 ≤ x.fmod 9 ∧ x.fmod 9 < 9 := ⟨Int.fmod_nonneg_of_pos _ (by decide), Int.fmod_lt_of_pos _ (by decide)⟩
    have hr := item_ok _ hle9.1 hle9.2
    cases hg : aget g ((x.fdiv 9).fmod 8) with
    | some row =>
      refine dr_notin_f (knd := PySem.intKind _ _) N4 (by k_mem) DR1 lo (intKind_is _ _ _ _) hg ?_
      k_steps
      unfold Held
      obtain ⟨p1, p2, p3, p4, p5, p6⟩ := l4
      have he : ∀ p ∈ T', p.1 ≠ e := fun p hp => Nat.ne_of_lt (ktn_ltOf p6 p hp)
      subst hT'
      exact turn2 (s := { s with heap := h2, toks := tk2 }) hrow X T hE F4 N4 k1 k2 lra lda lo ⟨p3, p4, p5⟩ he hoff LA ⟨IA.nd, Nat.le_succ_of_le IA.len, IA.mem, IA.dlen, IA.rl, IA.ok⟩ hD hne hg hr
    | none =>
      refine dr_notin_t (knd := PySem.intKind _ _) N4 (by k_mem) DR1 lo (intKind_is _ _ _ _) hg ?_
      k_steps
      rename_i l' h5 F5 N5 l5
      unfold Held
      obtain ⟨p1, p2, p3, p4, p5, p6⟩ := l4
      obtain ⟨r0, r1, r2, r3, r4, r5, r6⟩ := l5
      have he : ∀ p ∈ T', p.1 ≠ e := fun p hp => Nat.ne_of_lt (ktn_ltOf p6 p hp)
      have hl : ∀ p ∈ T', p.1 ≠ l' := fun p hp => Nat.ne_of_lt (ktn_ltOf r6 p hp)
      refine kda_set (knd := PySem.intKind _ _) (kvs := kv) (by assumption) (by assumption) (.tail (Nat.ne_of_gt r4) (.tail (Nat.ne_of_gt p4) (.tail (Nat.ne_of_lt (Nat.lt_trans (Nat.lt_trans (Nat.lt_succ_self _) (Nat.lt_succ_self _)) lra)) (.tail (Nat.ne_of_lt (Nat.lt_trans (Nat.lt_succ_self _) lra)) (.tail (Nat.ne_of_lt lra) (.head ?hU)))))) LA.dict (intKind_is _ _ _ _) ?hz ?hQ
      case hU =>
        intro p hp
        rcases List.mem_cons.mp hp with h | h
        · rw [h]; exact Nat.ne_of_gt lda
        · exact off2 p h ra (by simp)
      case hz => rw [LA.rows.length, sizeLine_eq]; have := IA.len; omega
      case hQ =>
        intro h6 o6 F6 N6 d6
        k_steps
        unfold Held
        have hkn : aget kv ((x.fdiv 9).fmod 8) = none := by
          have := LA.rows.none_iff ((x.fdiv 9).fmod 8)
          rw [hg] at this
          simpa [valueAt_eq] using this
        have es : stored kv ((x.fdiv 9).fmod 8) (Value.ref l') = kv ++ [((x.fdiv 9).fmod 8, Value.ref l')] := aput_new hkn
        have hlTl : ∀ p ∈ Tl, p.1 ≠ l' := fun p hp => hl p (hTl p hp)
        subst hT'
        refine turn2 (s := { s with heap := h2, toks := tk2 }) (Tl := (l', W.listOf #[] 0) :: Tl) (kv := kv ++ [((x.fdiv 9).fmod 8, Value.ref l')]) (g := g ++ [((x.fdiv 9).fmod 8, [])]) (dl := dl) (row := []) hrow X T hE F6 (news_rot N6) k1 k2 lra lda lo ⟨p3, p4, p5⟩ ?he ?hoff ?hLA (IA.fresh hg) (List.mem_cons_of_mem _ hD) ?hne ?hrw hr
        case he =>
          intro p hp
          rcases List.mem_cons.mp hp with h | h
          · rw [h]; exact Nat.ne_of_gt r0
          · exact he p h
        case hoff =>
          intro p hp b hb
          simp only [List.map_append, List.map_cons, List.map_nil, List.cons_append, List.nil_append, List.mem_cons] at hb
          rcases hb with h | h | h | h | h | h | h
          · exact hoff p hp b (by simp [h])
          · exact hoff p hp b (by simp [h])
          · exact hoff p hp b (by simp [h])
          · exact hoff p hp b (by simp [h])
          · exact hoff p hp b (by simp [h])
          · rw [h]; exact hl p (List.mem_append_right _ hp)
          · exact hoff p hp b (List.mem_map.mpr (by obtain ⟨q, hq, e1⟩ := List.mem_map.mp h; exact ⟨q, by simp [hq], e1⟩))
        case hLA =>
          refine ⟨?_, es ▸ d6, ?_, ?_, LA.drawn.mono fun p hp => List.mem_cons_of_mem _ hp⟩
          · intro p hp b hb
            rcases List.mem_cons.mp hp with h | h
            · rw [h]
              simp only [List.mem_cons, List.not_mem_nil, or_false] at hb
              rcases hb with h | h | h | h | h
              · rw [h]; exact Nat.ne_of_gt r1
              · rw [h]; exact Nat.ne_of_gt r2
              · rw [h]; exact Nat.ne_of_gt r3
              · rw [h]; exact Nat.ne_of_gt r4
              · rw [h]; exact Nat.ne_of_gt r5
            · exact LA.off p h b hb
          · exact (LA.rows.mono fun d v ⟨a, vs, n, e, hm, hs⟩ => ⟨a, vs, n, e, List.mem_cons_of_mem _ hm, hs⟩).snoc ⟨l', [], 0, rfl, List.Mem.head _, .nil⟩
          · refine List.pairwise_append.mpr ⟨LA.apart, List.pairwise_singleton _ _, fun p hp q hq => ?_⟩
            rw [List.mem_singleton.mp hq]
            obtain ⟨d, hd⟩ := LA.rows.memv p hp
            obtain ⟨a, vs', n', e1, hm, _⟩ := hd
            intro q1
            dsimp only at q1
            rw [e1] at q1
            exact hlTl _ hm (by cases q1; rfl)
        case hne =>
          intro p hp
          rcases List.mem_append.mp hp with h | h
          · exact hne p h
          · rw [List.mem_singleton.mp h]
            intro q1
            dsimp only at q1
            exact hlTl _ hD (by cases q1; rfl)
        case hrw =>
          rw [aget_append, hg]
          show aget [((x.fdiv 9).fmod 8, ([] : List Str))] _ = _
          rw [aget_cons, if_pos rfl]
end HKP
end SHKLawA

section SHKLawB
local macro_rules | `(tactic| walk_at "no such key") => `(tactic| skip)
set_option maxRecDepth 100000
namespace HKP
open PySem PySem.W PyProof.Rows PySem.Spec PySem.Calls PyProof.Rows.LCg
local macro_rules | `(tactic| walk_at "SrcD") => `(tactic| (refine held_of ?_))
local macro_rules | `(tactic| walk_at "subscriptTail") => `(tactic| (k_here; (with_reducible show wpAny _ _ (subscriptTail _ _ (Value.ref _) (Value.int _ _)) _ _ _); k_dflt (refine' dr_itemR ?hN ?hp ?hd ?hr ?hT ?hl ?_; (case hN => k_asm); (case hp => k_mem); (case hd => assumption); (case hr => assumption); (case hT => assumption); (case hl => assumption)); intro a' vs' n' hv' hm' hm2' hs'))

theorem list_copyN {prog : Program} {w : World} {A : Around} {E : Value → Shared → Prop} {s : Shared} {h₀ : Heap} {L a : Addr} {m : Str → Option Value} {news : List (Addr × Obj)} {vs : List Value} {n : Nat} {Q : Value → Shared → Prop} (F : Fr h₀ L s.heap m) (N : News h₀ L s.heap news) (hm : (a, W.listOf vs.toArray n) ∈ news) (hz : vs.length ≤ 1000)
    (h : ∀ D c h', Fr h₀ L h' m → News h₀ L h' ((D, W.listOf vs.toArray c) :: news) → (∀ p ∈ news, p.1 < D) → Q (.ref D) { s with heap := h' }) : wpAny (model prog w) A (call (.type "list") [.ref a]) Q E s :=
  call_list_seq (hsz := by rw [List.size_toArray, sizeLine_eq]; omega) a (.inl rfl) (N _ hm).1 rfl rfl fun h' c' hk hD => h _ c' h' (F.keeps hk) (fun p hp => by
    rcases List.mem_cons.mp hp with rfl | hp
    · exact ⟨hD, kdx_fresh F (Nat.le_refl _)⟩
    · exact ⟨hk _ _ (N p hp).1, (N p hp).2⟩) fun p hp => Heap.lt_size (N p hp).1
local macro_rules | `(tactic| walk_at "call type:list") => `(tactic| (k_here; (with_reducible show wpAny _ _ (call (Value.type _) [Value.ref _]) _ _ _); k_dflt (refine' list_copyN ?hF ?hN ?hm ?hz ?_; (case hF => k_asm); (case hN => k_asm); (case hm => (repeat' (first | assumption | refine' List.Mem.tail _ ?_))); (case hz => (have hb9 := StrsAre.length (by assumption); omega))); intro D' c' h' F' N' l1; (try k_lt l1); (try k_sweep)))
theorem rep_at {K δ : Type} [DecidableEq K] {R : δ → Value → Prop} {kv : List (K × Value)} {l : List (K × δ)} (h : Rep R kv l) : ∀ {i : Nat} {k : K} {v : Value}, kv[i]? = some (k, v) → ∃ d, l[i]? = some (k, d) ∧ R d v := by
  induction h with
  | nil => intro i k v e; simp at e
  | @cons k' v' d' a b hr _ ih =>
    intro i k v e
    cases i with
    | zero => simp at e; obtain ⟨rfl, rfl⟩ := e; exact ⟨d', rfl, hr⟩
    | succ i => simpa using ih (i := i) (by simpa using e)
def rdD (p : Int × List Str) : Dat := .tuple [.int p.1, .list (p.2.map .str)]
theorem strs_dat {T : List (Addr × Obj)} {vs : List Value} {ys : List Str} (h : StrsAre vs ys) : DatAll T vs (ys.map .str) := by
  induction h with
  | nil => exact .nil
  | cons x t _ ih => exact .cons (.str _ _) ih

set_option maxHeartbeats 8000000 in
theorem segB (hrow : PySem.Challenge.rw_iy0015_01 = PySem.Challenge.rw_iy0015_01) {w : World} {loose : List Str} {mean : ExcName → Option Value} {mg mb : Str → Option Value} {h₀ : Heap} {L fa ra da : Addr} {cd : Value} {m : Str → Option Value} {s : Shared} {Q : Flow → Shared → Prop} {E : Value → Shared → Prop} {c1 c2 c3 oR : Obj} {dvs : List Value} {dn : Nat} {Tl : List (Addr × Obj)} {kv : List (Int × Value)} {g : List (Int × List Str)} {dl : List (Int × Str)}
    (X : (hd.heap_39 w.params).In h₀) (T : Top hd.view_39 loose mean mg mb h₀)
    (F : Fr h₀ L s.heap m) (N : News h₀ L s.heap ((L + 1, c1) :: (L + 1 + 1, c2) :: (L + 1 + 1 + 1, c3) :: (ra, oR) :: (da, W.listOf dvs.toArray dn) :: Tl)) (k1 : c1.data = .cell (some (.ref ra))) (k2 : c2.data = .cell (some (.ref da))) (lo : (ra == sysModules) = false)
    (LA : LedA w L ra da Tl oR kv dvs g dl) (IA : InvA g dl 33)
    (done : ∀ h' tk D ys T2, Fr h₀ L h' (fun z => if z = "before" then some (.ref D) else m z) → News h₀ L h' ((L + 1, c1) :: (L + 1 + 1, c2) :: (L + 1 + 1 + 1, c3) :: (ra, oR) :: (da, W.listOf dvs.toArray dn) :: T2) → (D, lst ys) ∈ T2 → (∀ p ∈ Tl, p ∈ T2) → OwnOff T2 [L + 1, L + 1 + 1, L + 1 + 1 + 1, ra, da] → DatAll T2 ys (g.map rdD) → Q .next { s with heap := h', toks := tk }) :
    wpAny (model PySem.Challenge.rw_iy0015_01.row.prog w) (lawA L fa cd) (exec (LB[3]!) (lawE L fa cd)) Q E s := by
  unfold lawA lawE at *
  obtain ⟨sc, hsc⟩ : ∃ sc, sc = lawScope := ⟨_, rfl⟩
  rw [← hsc]
  conv at hsc => rhs; whnf
  subst hsc
  conv in (LB[3]!) => whnf
  revert X hrow
  w_top off
  k_fill
  intro hrow X
  have LR := LA.rows
  have LD := LA.dict
  k_dflt (refine Assign_ListComp_D (K := Int) (knd := PySem.intKind _ w) F (by rfl) (by with_unfolding_all rfl) (by with_unfolding_all rfl) (by decide) (by rfl) (by decide) (by rfl) (by rfl) (by rfl) ?_)
  k_steps
  unfold Held
  refine ⟨ra, oR, kv, _, rfl, lo, rfl, F, N, by simp, LD, by rw [LR.length, sizeLine_eq]; have := IA.len; omega, fun s₂ hs₂ => ?_⟩
  obtain ⟨h2, rfl⟩ := hs₂
  let J : Nat → List Value → List (Addr × Obj) → Prop := fun i ys news => ∃ T2, news = (L + 1, c1) :: (L + 1 + 1, c2) :: (L + 1 + 1 + 1, c3) :: (ra, oR) :: (da, W.listOf dvs.toArray dn) :: T2 ∧ (∀ p ∈ Tl, p ∈ T2) ∧ OwnOff T2 [L + 1, L + 1 + 1, L + 1 + 1 + 1, ra, da] ∧ DatAll T2 ys ((g.take i).map rdD)
  refine rest_U J ?turn ?fin kv.length 0 [] _ (Nat.zero_add _) ⟨Tl, rfl, fun p hp => hp, LA.off, .nil⟩
  case turn =>
    rintro i ys news v I oI C oC D m₂ h3 tk3 E' hi ⟨T2, rfl, hT, hoff, hD⟩ ⟨l, x, hx, hl⟩ hC hx2 F3 N3 off ne
    obtain ⟨tl, rfl⟩ := Value.isInt_shape hl
    simp only [Off3, and_true] at off
    have hrl : ∃ row, g[i]? = some (l, row) ∧ aget g l = some row := by
      obtain ⟨row, e1, _⟩ := rep_at LR hx
      exact ⟨row, e1, aget_of_mem IA.nd (List.mem_of_getElem? e1)⟩
    obtain ⟨row, hg, hrw⟩ := hrl
    have hrow20 : row.length ≤ 20 := Nat.le_trans (rights_le (aget_mem hrw)) (Nat.le_trans IA.rl IA.dlen)
    obtain ⟨o1, o2, o3, o4, o5, o6⟩ := off
    obtain ⟨n1, n2, n3⟩ := ne
    k_steps
    rename_i a vs n hv hm hm2 hs b cb hb1 lb t ht1 F4 N4 lt
    obtain ⟨b1, b2, b3, b4, b5, b6, b7, b8, b9⟩ := lb
    obtain ⟨t0, t1, t2, t3, t4, t5, t6, t7, t8, t9⟩ := lt
    refine CompEnd.intro F4 N4 ((L + 1, c1) :: (L + 1 + 1, c2) :: (L + 1 + 1 + 1, c3) :: (ra, oR) :: (da, W.listOf dvs.toArray dn) :: (t, { cls := .type "tuple", data := .seq #[.int l tl, .ref b] }) :: (b, W.listOf vs.toArray cb) :: T2) (fun p hp => ?_) ⟨o1, o2, o3, o4, o5, ⟨Nat.ne_of_gt t1, Nat.ne_of_gt t2, Nat.ne_of_gt t3⟩, ⟨Nat.ne_of_gt b1, Nat.ne_of_gt b2, Nat.ne_of_gt b3⟩, o6⟩ (by simp) ⟨_, rfl, fun p hp => List.mem_cons_of_mem _ (List.mem_cons_of_mem _ (hT p hp)), ?_, ?_⟩
    · simp only [List.mem_cons] at hp ⊢
      rcases hp with h | h | h | h | h | h | h | h | h | h | h <;> (repeat (first | with_reducible exact Or.inl h | with_reducible exact h | refine Or.inr ?_))
    · intro p hp q hq
      simp only [List.mem_cons, List.not_mem_nil, or_false] at hq
      rcases List.mem_cons.mp hp with h | h
      · rw [h]
        rcases hq with h | h | h | h | h
        · rw [h]; exact Nat.ne_of_gt t4
        · rw [h]; exact Nat.ne_of_gt t5
        · rw [h]; exact Nat.ne_of_gt t6
        · rw [h]; exact Nat.ne_of_gt t7
        · rw [h]; exact Nat.ne_of_gt t8
      · rcases List.mem_cons.mp h with h | h
        · rw [h]
          rcases hq with h | h | h | h | h
          · rw [h]; exact Nat.ne_of_gt b4
          · rw [h]; exact Nat.ne_of_gt b5
          · rw [h]; exact Nat.ne_of_gt b6
          · rw [h]; exact Nat.ne_of_gt b7
          · rw [h]; exact Nat.ne_of_gt b8
        · exact hoff p h q (by simp only [List.mem_cons, List.not_mem_nil, or_false]; exact hq)
    · have e1 : (g.take (i + 1)).map rdD = (g.take i).map rdD ++ [rdD (l, row)] := by
        rw [List.take_add_one, hg, List.map_append]; rfl
      rw [e1]
      refine (hD.mono fun p hp => List.mem_cons_of_mem _ (List.mem_cons_of_mem _ hp)).append (.one ?_)
      exact .tuple (vs := [.int l tl, .ref b]) (List.Mem.head _) (.cons (.int _ _) (.cons (.list (List.Mem.tail _ (List.Mem.head _)) (strs_dat hs)) .nil))
  case fin =>
    rintro ys news ⟨T2, rfl, hT, hoff, hD⟩
    intro D h4 tk4 F4 N4 off
    obtain ⟨q1, q2, q3, q4, q5, q6⟩ := off
    have hgl : g.take kv.length = g := List.take_of_length_le (by rw [LR.length]; exact Nat.le_refl _)
    rw [hgl] at hD
    refine done h4 tk4 D ys ((D, lst ys) :: T2) F4 (fun p hp => N4 p ?_) List.mem_cons_self (fun p hp => List.mem_cons_of_mem _ (hT p hp)) ?_ (hD.mono fun p hp => List.mem_cons_of_mem _ hp)
    · simp only [List.mem_cons] at hp ⊢
      rcases hp with h | h | h | h | h | h | h <;> (repeat (first | with_reducible exact Or.inl h | with_reducible exact h | refine Or.inr ?_))
    · intro p hp q hq
      rcases List.mem_cons.mp hp with h | h
      · rw [h]
        simp only [List.mem_cons, List.not_mem_nil, or_false] at hq
        rcases hq with h | h | h | h | h
        · rw [h]; exact Ne.symm q1
        · rw [h]; exact Ne.symm q2
        · rw [h]; exact Ne.symm q3
        · rw [h]; exact Ne.symm q4
        · rw [h]; exact Ne.symm q5
      · exact hoff p h q hq
end HKP
end SHKLawB

section SHKLawC
set_option maxRecDepth 100000
namespace HKP
open PySem PySem.W PyProof.Rows PySem.Spec PySem.Calls PyProof.Rows.LCg

theorem ints_of : ∀ {vs : List Value} {ks : List Int}, vs.length = ks.length → (∀ (j : Nat) v, vs[j]? = some v → ∃ k t, ks[j]? = some k ∧ v = .int k t) → IntsAre vs ks
  | [], [], _, _ => .nil
  | [], _ :: _, h, _ => by simp at h
  | _ :: _, [], h, _ => by simp at h
  | v :: vs, k :: ks, h, hv => by
    obtain ⟨k', t, e1, e2⟩ := hv 0 v rfl
    simp at e1
    subst e1
    subst e2
    exact .cons _ _ (ints_of (by simpa using h) fun j u hu => by simpa using hv (j + 1) u (by simpa using hu))
theorem list_keysI {prog : Program} {w : World} {A : Around} {E : Value → Shared → Prop} {s : Shared} {h₀ : Heap} {L d v : Addr} {m : Str → Option Value} {news : List (Addr × Obj)} {o : Obj} {kvs : List (Int × Value)} {Q : Value → Shared → Prop} (hh : A.handled = none) (F : Fr h₀ L s.heap m) (N : News h₀ L s.heap news) (hv : (v, { cls := .type "dict_keys", data := .fields #[.ref d] }) ∈ news) (hp : (d, o) ∈ news) (hd : o.IsDictOf (PySem.intKind prog w) kvs) (hn : kvs.length ≤ 1000)
    (h : ∀ (B : Addr) c h' tk vs, IntsAre vs (kvs.map (·.1)) → Fr h₀ L h' m → News h₀ L h' ((B, W.listOf vs.toArray c) :: news) → (∀ q ∈ news, q.1 < B) → Q (.ref B) { s with heap := h', toks := tk }) :
    wpAny (model prog w) A (call (.type "list") [.ref v]) Q E s := by
  obtain ⟨ep, hat⟩ := (kda_dict N hp hd).dictAt
  refine kdl_N (kdl_keys (knd := PySem.intKind prog w) (kvs := kvs) (ep := ep)) hh F N ⟨⟨_, (N _ hv).1, rfl, rfl⟩, hat⟩ (by rw [sizeLine_eq]; omega) fun B c h' tk vs F' N' l1 hl hv => h B c h' tk vs (ints_of (by rw [hl, List.length_map]) fun j u hu => ?_) F' N' l1
  obtain ⟨k, x, hx, hk⟩ := hv j u hu
  obtain ⟨t, rfl⟩ := Value.isInt_shape hk
  exact ⟨k, t, by rw [List.getElem?_map, hx]; rfl, rfl⟩
local macro_rules | `(tactic| walk_at "call type:list") => `(tactic| (k_here; (with_reducible show wpAny _ _ (call (Value.type _) [Value.ref _]) _ _ _); k_dflt (refine' list_keysI ?hh ?hF ?hN ?hv ?hp ?hd ?hn ?_; (case hh => rfl); (case hF => k_asm); (case hN => k_asm); (case hv => k_mem); (case hp => k_mem); (case hd => assumption); (case hn => assumption)); intro D' c' h' tk' vs' hI' F' N' l1; (try k_lt l1); (try k_sweep)))

theorem news_pick {h₀ h : Heap} {L : Addr} {a1 a2 a3 a4 a5 a6 a7 : Addr × Obj} {R : List (Addr × Obj)} (N : News h₀ L h (a1 :: a2 :: a3 :: a4 :: a5 :: a6 :: a7 :: R)) : News h₀ L h (a6 :: a7 :: a5 :: a4 :: a1 :: (a2 :: R)) := fun p hp => N p (by
  simp only [List.mem_cons] at hp ⊢
  rcases hp with h | h | h | h | h | h | h <;> (repeat (first | with_reducible exact Or.inl h | with_reducible exact h | refine Or.inr ?_)))
set_option maxHeartbeats 8000000 in
theorem newfin (hrow : PySem.Challenge.rw_iy0015_01 = PySem.Challenge.rw_iy0015_01) {w : World} {loose : List Str} {mean : ExcName → Option Value} {mg mb : Str → Option Value} {h₀ : Heap} {L fa ra : Addr} {cd : Value} {m : Str → Option Value} {s : Shared} {Q E : Value → Shared → Prop} {oR : Obj} {R0 : List (Addr × Obj)} {kv : List (Int × Value)}
    (X : (hd.heap_39 w.params).In h₀) (T : Top hd.view_39 loose mean mg mb h₀) (B : Below callerA h₀ [] h₀)
    (F : Fr h₀ L s.heap m) (N : News h₀ L s.heap ((ra, oR) :: R0)) (lo : (ra == sysModules) = false) (LD : oR.IsDictOf (PySem.intKind PR w) kv) (hkl : kv.length ≤ 1000)
    (done : ∀ h' tk (i : Ids) t o1 o2 o3 lvs lc, i.gr = ra → Fr h₀ L h' m → News h₀ L h' (led i (-1) t o1 o2 o3 ++ (i.lf, W.listOf lvs.toArray lc) :: (ra, oR) :: R0) → Holds3 w o1 o2 o3 ⟨[], [], [], -1⟩ → IntsAre lvs (kv.map (·.1)) → Apart i → (∀ p ∈ (ra, oR) :: R0, ∀ b ∈ i.lf :: i.adr, @LT.lt Nat _ p.1 b) → i.lf ∉ i.adr → Q (.ref i.self) { s with heap := h', toks := tk }) :
    wpAny (model PySem.Challenge.rw_iy0015_01.row.prog w) (lawA L fa cd) (call (.ref 73) [.ref ra]) Q E s := by
  unfold lawA
  obtain ⟨sc, hsc⟩ : ∃ sc, sc = lawScope := ⟨_, rfl⟩
  rw [← hsc]
  conv at hsc => rhs; whnf
  subst hsc
  revert X hrow
  w_top off
  k_fill
  intro hrow X
  k_steps
  rename_i x dD hx Fx Nx lx l2 gg LL hg FG BB XX TT tk0 hh10 hh9 dPL hh8 oPL loPL hsPL fsPL hiPL fiPL lPL hh7 dPR hh6 oPR loPR hsPR fsPR hiPR fiPR lPR hh5 dK hh4 lK dLF cLF hh3 tkLF vLF hI lLF hh2 dDL hh1 oDL loDL hsDL fsDL hiDL fiDL lDL hhh FF NN kF kN Tc kX
  obtain ⟨z1, z2⟩ := lx
  have y1 := ltN l2
  have y2 := ltN lPL.1
  have y3 := ltN lPR.1
  have y4 := ltN lK.1
  have y5 := ltN lLF.1
  have y6 := ltN lDL.1
  have y0 := ltN z1
  have all : ∀ p ∈ (ra, oR) :: R0, @LT.lt Nat _ p.1 dD := by
    intro p hp
    rcases List.mem_cons.mp hp with h | h
    · rw [h]; exact z1
    · exact ktn_ltOf z2 p h
  refine done _ _ ⟨x, dD, ra, dPL, dPR, dLF, dDL, _, _, _, _, _, _, _, _, _, _, _, _⟩ _ oPL oPR oDL vLF cLF rfl kF (news_pick kN) ⟨⟨[], hiPL, .nil⟩, ⟨[], hsPR, .nil⟩, ⟨[], hiDL, .nil⟩⟩ hI ⟨?_, ?_, ?_, ?_, ?_, ?_, ?_, ?_, ?_, ?_, ?_, ?_, loPL, loPR, loDL, lo⟩ ?_ ?_
  case refine_11 =>
    intro h
    simp only [Ids.adr, List.mem_cons, List.not_mem_nil, or_false] at h
    rcases h with h | h | h | h | h <;> exact absurd h (neN (by omega))
  case refine_12 =>
    intro h
    simp only [Ids.adr, List.mem_cons, List.not_mem_nil, or_false] at h
    rcases h with h | h | h | h | h <;> exact absurd h (neN (by omega))
  case refine_13 =>
    intro p hp b hb
    have q := all p hp
    simp only [Ids.adr, List.mem_cons, List.not_mem_nil, or_false] at hb
    rcases hb with h | h | h | h | h | h <;> (rw [h]; omega)
  case refine_14 =>
    intro h
    simp only [Ids.adr, List.mem_cons, List.not_mem_nil, or_false] at h
    rcases h with h | h | h | h | h <;> exact absurd h (neN (by omega))
  all_goals (dsimp only; omega)
end HKP
end SHKLawC

section SHKLawS
local macro_rules | `(tactic| walk_at "no such key") => `(tactic| skip)
set_option maxRecDepth 100000
namespace HKP
open PySem PySem.W PyProof.Rows PySem.Spec PySem.Calls PyProof.Rows.LCg

/-- what stands through the law after its graph is built and its finder made -/
structure Law1 (w : World) (L ra da : Addr) (c1 c2 oR : Obj) (dvs : List Value) (i : Ids) (kv : List (Int × Value)) (g : List (Int × List Str)) (dl : List (Int × Str)) (lvs : List Value) (lc : Nat) (T : List (Addr × Obj)) : Prop where
  k1 : c1.data = .cell (some (.ref ra))
  k2 : c2.data = .cell (some (.ref da))
  lo : (ra == sysModules) = false
  lra : @LT.lt Nat _ (L + 1 + 1 + 1) ra
  lda : @LT.lt Nat _ ra da
  LD : oR.IsDictOf (PySem.intKind PR w) kv
  LR : Rep (rowIn T) kv g
  drawn : PairsIn T dvs dl
  IA : InvA g dl 33
  gr : i.gr = ra
  lf : (i.lf, W.listOf lvs.toArray lc) ∈ T
  hI : IntsAre lvs (g.map (·.1))
  ap : Apart i
  offN : OwnOff T [L + 1, L + 1 + 1, L + 1 + 1 + 1, ra, da]
  offA : OwnOff T i.adr
  adr : ∀ b ∈ i.adr, @LT.lt Nat _ da b
abbrev namedT (L ra da : Addr) (c1 c2 c3 oR : Obj) (dvs : List Value) (dn : Nat) (T : List (Addr × Obj)) : List (Addr × Obj) := (L + 1, c1) :: (L + 1 + 1, c2) :: (L + 1 + 1 + 1, c3) :: (ra, oR) :: (da, W.listOf dvs.toArray dn) :: T

theorem Law1.mono {w : World} {L ra da : Addr} {c1 c2 oR : Obj} {dvs : List Value} {i : Ids} {kv : List (Int × Value)} {g : List (Int × List Str)} {dl : List (Int × Str)} {lvs : List Value} {lc : Nat} {T T2 : List (Addr × Obj)} (H : Law1 w L ra da c1 c2 oR dvs i kv g dl lvs lc T) (hT : ∀ p ∈ T, p ∈ T2)
    (o1 : OwnOff T2 [L + 1, L + 1 + 1, L + 1 + 1 + 1, ra, da]) (o2 : OwnOff T2 i.adr) : Law1 w L ra da c1 c2 oR dvs i kv g dl lvs lc T2 :=
  { H with LR := H.LR.mono fun d v ⟨a, vs, n, e, hm, hs⟩ => ⟨a, vs, n, e, hT _ hm, hs⟩, drawn := H.drawn.mono hT, lf := hT _ H.lf, offN := o1, offA := o2 }

theorem Law1.grAt {w : World} {h₀ h : Heap} {L0 L ra da : Addr} {c1 c2 oR : Obj} {dvs : List Value} {i : Ids} {kv : List (Int × Value)} {g : List (Int × List Str)} {dl : List (Int × Str)} {lvs : List Value} {lc : Nat} {T news : List (Addr × Obj)} (H : Law1 w L ra da c1 c2 oR dvs i kv g dl lvs lc T) (N : News h₀ L0 h news) (hr : (ra, oR) ∈ news) (hT : ∀ p ∈ T, p ∈ news) : GrAt w h i g where
  gr := ⟨kv, by rw [H.gr]; exact Heap.dictOf_iff.mpr ⟨oR, (N _ hr).1, H.LD⟩, H.LR.mono fun d v ⟨a, vs, n, e, hm, hs⟩ => ⟨a, vs, e, ⟨_, (N _ (hT _ hm)).1, rfl, n, rfl⟩, hs⟩⟩
  lf := ⟨lvs, ⟨_, (N _ (hT _ H.lf)).1, rfl, lc, rfl⟩, H.hI⟩
  sz := ⟨by have := H.IA.len; omega, by have := H.IA.rl; have := H.IA.dlen; omega⟩

local macro_rules | `(tactic| walk_at "call ref") => `(tactic| (k_here; refine held_of ?_))

set_option maxHeartbeats 8000000 in
theorem seg4 (hrow : PySem.Challenge.rw_iy0015_01 = PySem.Challenge.rw_iy0015_01) {w : World} {loose : List Str} {mean : ExcName → Option Value} {mg mb : Str → Option Value} {h₀ : Heap} {L fa ra da : Addr} {cd : Value} {m : Str → Option Value} {s : Shared} {Q : Flow → Shared → Prop} {E : Value → Shared → Prop} {c1 c2 c3 oR : Obj} {dvs : List Value} {dn : Nat} {Tl : List (Addr × Obj)} {kv : List (Int × Value)} {g : List (Int × List Str)} {dl : List (Int × Str)}
    (X : (hd.heap_39 w.params).In h₀) (T : Top hd.view_39 loose mean mg mb h₀) (B : Below callerA h₀ [] h₀)
    (F : Fr h₀ L s.heap m) (N : News h₀ L s.heap (namedT L ra da c1 c2 c3 oR dvs dn Tl)) (k1 : c1.data = .cell (some (.ref ra))) (k2 : c2.data = .cell (some (.ref da))) (lo : (ra == sysModules) = false) (lra : @LT.lt Nat _ (L + 1 + 1 + 1) ra) (lda : @LT.lt Nat _ ra da)
    (LA : LedA w L ra da Tl oR kv dvs g dl) (IA : InvA g dl 33)
    (done : ∀ h' tk i t o1 o2 o3 lvs lc, Fr h₀ L h' (fun z => if z = "finder" then some (.ref i.self) else m z) → News h₀ L h' (led i (-1) t o1 o2 o3 ++ namedT L ra da c1 c2 c3 oR dvs dn ((i.lf, W.listOf lvs.toArray lc) :: Tl)) → Holds3 w o1 o2 o3 ⟨[], [], [], -1⟩ → Law1 w L ra da c1 c2 oR dvs i kv g dl lvs lc ((i.lf, W.listOf lvs.toArray lc) :: Tl) → Q .next { s with heap := h', toks := tk }) :
    wpAny (model PySem.Challenge.rw_iy0015_01.row.prog w) (lawA L fa cd) (exec (LB[4]!) (lawE L fa cd)) Q E s := by
  unfold lawA lawE at *
  obtain ⟨sc, hsc⟩ : ∃ sc, sc = lawScope := ⟨_, rfl⟩
  rw [← hsc]
  conv at hsc => rhs; whnf
  subst hsc
  conv in (LB[4]!) => whnf
  revert X hrow
  w_top off
  k_fill
  intro hrow X
  k_steps
  unfold Held
  refine newfin hrow X T B F (N := ?N) (R0 := (L + 1, c1) :: (L + 1 + 1, c2) :: (L + 1 + 1 + 1, c3) :: (da, W.listOf dvs.toArray dn) :: Tl) lo LA.dict (by rw [LA.rows.length]; have := IA.len; omega) ?done
  case N =>
    intro p hp
    refine N p ?_
    simp only [List.mem_cons] at hp ⊢
    rcases hp with h | h | h | h | h | h <;> (repeat (first | with_reducible exact Or.inl h | with_reducible exact h | refine Or.inr ?_))
  case done =>
    intro h2 tk2 i t o1 o2 o3 lvs lc hgr F2 N2 H3 hI ap hlt hlf
    simp only [led, List.cons_append, List.nil_append] at N2
    k_steps
    rename_i h3 F3 N3
    have hn : ∀ p ∈ namedT L ra da c1 c2 c3 oR dvs dn Tl, p ∈ (ra, oR) :: (L + 1, c1) :: (L + 1 + 1, c2) :: (L + 1 + 1 + 1, c3) :: (da, W.listOf dvs.toArray dn) :: Tl := by
      intro p hp
      simp only [namedT, List.mem_cons] at hp ⊢
      rcases hp with h | h | h | h | h | h <;> (repeat (first | with_reducible exact Or.inl h | with_reducible exact h | refine Or.inr ?_))
    refine done h3 _ i t o1 o2 o3 lvs lc F3 (fun p hp => N3 p ?_) H3 ⟨k1, k2, lo, lra, lda, LA.dict, LA.rows.mono fun d v ⟨a, vs, n, e, hm, hs⟩ => ⟨a, vs, n, e, List.mem_cons_of_mem _ hm, hs⟩, LA.drawn.mono fun p hp => List.mem_cons_of_mem _ hp, IA, hgr, List.mem_cons_self, LA.rows.keys ▸ hI, ap, ?_, ?_, ?_⟩
    · simp only [led, namedT, List.cons_append, List.nil_append, List.mem_cons] at hp ⊢
      rcases hp with h | h | h | h | h | h | h | h | h | h | h | h <;> (repeat (first | with_reducible exact Or.inl h | with_reducible exact h | refine Or.inr ?_))
    · intro p hp b hb
      rcases List.mem_cons.mp hp with h | h
      · rw [h]
        have : ∃ o, (b, o) ∈ namedT L ra da c1 c2 c3 oR dvs dn Tl := by
          simp only [List.mem_cons, List.not_mem_nil, or_false] at hb
          rcases hb with h | h | h | h | h
          · exact ⟨c1, by rw [h]; simp [namedT]⟩
          · exact ⟨c2, by rw [h]; simp [namedT]⟩
          · exact ⟨c3, by rw [h]; simp [namedT]⟩
          · exact ⟨oR, by rw [h]; simp [namedT]⟩
          · exact ⟨_, by rw [h]; exact List.Mem.tail _ (List.Mem.tail _ (List.Mem.tail _ (List.Mem.tail _ (List.Mem.head _))))⟩
        obtain ⟨o, ho⟩ := this
        exact Nat.ne_of_gt (hlt _ (hn _ ho) i.lf (by simp))
      · exact LA.off p h b hb
    · intro p hp b hb
      rcases List.mem_cons.mp hp with h | h
      · rw [h]; exact fun q => hlf (by have q' : i.lf = b := q; rw [q']; exact hb)
      · exact Nat.ne_of_lt (hlt p (by simp [h]) b (by simp only [List.mem_cons]; exact Or.inr (by simpa using hb)))
    · intro b hb
      exact hlt (da, W.listOf dvs.toArray dn) (by simp) b (by simp only [List.mem_cons]; exact Or.inr (by simpa using hb))
end HKP
end SHKLawS

section SHKLawG
local macro_rules | `(tactic| walk_at "no such key") => `(tactic| skip)
local macro_rules | `(tactic| walk_at "no such key") => `(tactic| skip)
set_option maxRecDepth 100000
namespace HKP
open PySem PySem.W PyProof.Rows PySem.Spec PySem.Calls PyProof.Rows.LCg
local macro_rules | `(tactic| walk_at "call ref") => `(tactic| (k_here; refine held_of ?_))

set_option maxHeartbeats 8000000 in
theorem seg5 (hrow : PySem.Challenge.rw_iy0015_01 = PySem.Challenge.rw_iy0015_01) {w : World} {loose : List Str} {mean : ExcName → Option Value} {mg mb : Str → Option Value} {h₀ : Heap} {L fa ra da : Addr} {cd : Value} {m : Str → Option Value} {s : Shared} {Q : Flow → Shared → Prop} {E : Value → Shared → Prop} {c1 c2 c3 oR : Obj} {dvs : List Value} {dn : Nat} {Tl : List (Addr × Obj)} {kv : List (Int × Value)} {g : List (Int × List Str)} {dl : List (Int × Str)} {i : Ids} {t : Tok} {o1 o2 o3 : Obj} {lvs : List Value} {lc : Nat} {S S' : HS Str} {k' : Nat}
    (X : (hd.heap_39 w.params).In h₀) (T : Top hd.view_39 loose mean mg mb h₀) (B : Below callerA h₀ [] h₀)
    (F : Fr h₀ L s.heap (fun z => if z = "finder" then some (.ref i.self) else m z)) (N : News h₀ L s.heap (led i S.rd t o1 o2 o3 ++ namedT L ra da c1 c2 c3 oR dvs dn Tl)) (H3 : Holds3 w o1 o2 o3 S) (ky : Keyed g S) (H : Law1 w L ra da c1 c2 oR dvs i kv g dl lvs lc Tl) (k3 : ∃ v, c3.data = .cell v) (hres : hkRun g S.rd = some (S', k'))
    (done : ∀ h' tk t' o1' o2' o3' c3' ts, Fr h₀ L h' (fun z => if z = "size" then some (.int k' ts) else if z = "finder" then some (.ref i.self) else m z) → News h₀ L h' (led i S'.rd t' o1' o2' o3' ++ namedT L ra da c1 c2 c3' oR dvs dn Tl) → Holds3 w o1' o2' o3' S' → Keyed g S' → c3'.data = .cell (some (.ref i.pl)) → Q .next { s with heap := h', toks := tk }) :
    wpAny (model PySem.Challenge.rw_iy0015_01.row.prog w) (lawA L fa cd) (exec (LB[5]!) (lawE L fa cd)) Q E s := by
  unfold lawA lawE at *
  obtain ⟨sc, hsc⟩ : ∃ sc, sc = lawScope := ⟨_, rfl⟩
  rw [← hsc]
  conv at hsc => rhs; whnf
  subst hsc
  conv in (LB[5]!) => whnf
  revert X hrow
  w_top off
  k_fill
  intro hrow X
  have N0 := N
  obtain ⟨v3, k3⟩ := k3
  have offN := H.offN
  have u1 := H.adr i.self (by simp)
  have u2 := H.adr i.D (by simp)
  have u3 := H.adr i.pl (by simp)
  have u4 := H.adr i.pr (by simp)
  have u5 := H.adr i.dl (by simp)
  have u6 := H.lra
  have u7 := H.lda
  have k1 := H.k1
  have k2 := H.k2
  simp only [led, List.cons_append, List.nil_append] at N
  k_steps
  unfold Held
  have ha : ∀ p ∈ namedT L ra da c1 c2 c3 oR dvs dn Tl, p.1 ∉ i.adr := by
    intro p hp hb
    have q := H.adr _ hb
    have w1 := H.lra
    have w2 := H.lda
    simp only [namedT, List.mem_cons] at hp
    rcases hp with h | h | h | h | h | h
    · rw [h] at q; exact absurd q (by dsimp only; omega)
    · rw [h] at q; exact absurd q (by dsimp only; omega)
    · rw [h] at q; exact absurd q (by dsimp only; omega)
    · rw [h] at q; exact absurd q (by dsimp only; omega)
    · rw [h] at q; exact absurd q (by dsimp only; omega)
    · exact H.offA p h _ hb rfl
  have G : GrAt w s.heap i g := H.grAt N0 (List.mem_append_right _ (List.Mem.tail _ (List.Mem.tail _ (List.Mem.tail _ (List.Mem.head _))))) fun p hp => List.mem_append_right _ (List.Mem.tail _ (List.Mem.tail _ (List.Mem.tail _ (List.Mem.tail _ (List.Mem.tail _ hp)))))
  refine methT_use (ext := namedT L ra da c1 c2 c3 oR dvs dn Tl) F N0 rfl ha (fun F N => getnum_ok hrow B F X T rfl rfl rfl rfl (by k_room) N H3 ky H.ap G hres) ?_
  intro a tk0 t' o1' o2' o3' h2 tk2 H3' ky' F2 N2 hne
  simp only [led, namedT, List.cons_append, List.nil_append] at N2
  have na : @Ne Nat (L + 1 + 1 + 1) a := hne (L + 1 + 1 + 1, c3) (by simp [led, namedT])
  k_steps
  rename_i h3 h4 h5 c3' F3 N3 d3
  refine done _ _ t' o1' o2' o3' c3' tk0 F3 (fun p hp => N3 p ?_) H3' ky' d3
  simp only [led, namedT, List.cons_append, List.nil_append] at hp
  exact List.mem_cons_of_mem _ hp
end HKP
end SHKLawG

section SHKLawT
local macro_rules | `(tactic| walk_at "no such key") => `(tactic| skip)
set_option maxRecDepth 100000
namespace HKP
open PySem PySem.W PyProof.Rows PySem.Spec PySem.Calls PyProof.Rows.LCg
theorem dr_items {prog : Program} {w : World} {A : Around} {E : Value → Shared → Prop} {s : Shared} {h₀ : Heap} {L d : Addr} {m : Str → Option Value} {news : List (Addr × Obj)} {K δ : Type} [DecidableEq K] {knd : PySem.KeyKind prog w K} {R : δ → Value → Prop} {o : Obj} {l : List (K × δ)} {Q : Value → Shared → Prop} (F : Fr h₀ L s.heap m) (N : News h₀ L s.heap news) (hp : (d, o) ∈ news) (hd : DR knd R o l) (lo : (d == sysModules) = false)
    (h : ∀ (D : Addr) h', Fr h₀ L h' m → News h₀ L h' ((D, { cls := .type "dict_items", data := .fields #[.ref d] }) :: news) → (∀ q ∈ news, q.1 < D) → Q (.ref D) { s with heap := h' }) :
    wpAny (model prog w) A (call (.builtin "dict.items") [.ref d]) Q E s := by
  obtain ⟨kv, hd, _⟩ := hd
  exact kdx_view F N hp hd lo h
local macro_rules | `(tactic| walk_at "getMethod ref") => `(tactic| (k_here; (with_reducible show wpAny _ _ (getMethod (Value.ref _) (PySem.Str.ofString "items") _) _ _ _); k_dflt (refine' dr_itemsM (knd := PySem.intKind _ _) ?hN ?hp ?hd ?_; (case hN => k_asm); (case hp => k_mem); (case hd => assumption))))
local macro_rules | `(tactic| walk_at "call builtin:dict.items") => `(tactic| (k_here; k_dflt (refine' dr_items (knd := PySem.intKind _ _) ?hF ?hN ?hp ?hd ?lo ?_; (case hF => k_asm); (case hN => k_asm); (case hp => k_mem); (case hd => assumption); (case lo => assumption)); intro D' h' F' N' l1; (try k_lt l1)))
local macro_rules | `(tactic| walk_at "call builtin:sorted") => `(tactic| (k_here; refine held_of ?_))

theorem Keyed.pl_33 {g : List (Int × List Str)} {S : HS Str} {dl : List (Int × Str)} {w : World} {o1 o2 o3 : Obj} (K : Keyed g S) (H3 : Holds3 w o1 o2 o3 S) (IA : InvA g dl 33) : S.pl.length < 64 := by
  have := nodup_le H3.1.nodup K.pl
  simp only [List.length_map] at this
  have := IA.len
  omega

theorem core_has {L ra da : Addr} {c1 c2 c3 oR : Obj} {dvs : List Value} {dn : Nat} {Tl : List (Addr × Obj)} {i : Ids} {rd : Int} {t : Tok} {o1 o2 o3 : Obj} {b : Addr} (hb : b ∈ [L + 1, L + 1 + 1, L + 1 + 1 + 1, ra, da] ∨ b ∈ i.adr) : ∃ o, (b, o) ∈ led i rd t o1 o2 o3 ++ namedT L ra da c1 c2 c3 oR dvs dn Tl := by
  rcases hb with hb | hb
  · have : b ∈ (namedT L ra da c1 c2 c3 oR dvs dn Tl).map (·.1) := by
      simp only [List.mem_cons, List.not_mem_nil, or_false] at hb
      simp only [namedT, List.map_cons, List.mem_cons]
      rcases hb with h | h | h | h | h <;> (repeat (first | with_reducible exact Or.inl h | with_reducible exact h | refine Or.inr ?_))
    obtain ⟨q, hq, e⟩ := List.mem_map.mp this
    exact ⟨q.2, List.mem_append_right _ (e ▸ hq)⟩
  · have : b ∈ (led i rd t o1 o2 o3).map (·.1) := hb
    obtain ⟨q, hq, e⟩ := List.mem_map.mp this
    exact ⟨q.2, List.mem_append_left _ (e ▸ hq)⟩
theorem Law1.ext {w : World} {L ra da : Addr} {c1 c2 c3 oR : Obj} {dvs : List Value} {dn : Nat} {i : Ids} {rd : Int} {t : Tok} {o1 o2 o3 : Obj} {kv : List (Int × Value)} {g : List (Int × List Str)} {dl : List (Int × Str)} {lvs : List Value} {lc : Nat} {Tl new : List (Addr × Obj)} (H : Law1 w L ra da c1 c2 oR dvs i kv g dl lvs lc Tl)
    (hn : ∀ p ∈ new, ∀ q ∈ led i rd t o1 o2 o3 ++ namedT L ra da c1 c2 c3 oR dvs dn Tl, q.1 ≠ p.1) : Law1 w L ra da c1 c2 oR dvs i kv g dl lvs lc (new ++ Tl) := by
  refine H.mono (fun p hp => List.mem_append_right _ hp) (fun p hp b hb => ?_) fun p hp b hb => ?_
  · rcases List.mem_append.mp hp with h | h
    · obtain ⟨o, ho⟩ := core_has (c1 := c1) (c2 := c2) (c3 := c3) (oR := oR) (dvs := dvs) (dn := dn) (Tl := Tl) (i := i) (rd := rd) (t := t) (o1 := o1) (o2 := o2) (o3 := o3) (.inl hb)
      exact Ne.symm (hn p h _ ho)
    · exact H.offN p h b hb
  · rcases List.mem_append.mp hp with h | h
    · obtain ⟨o, ho⟩ := core_has (L := L) (ra := ra) (da := da) (c1 := c1) (c2 := c2) (c3 := c3) (oR := oR) (dvs := dvs) (dn := dn) (Tl := Tl) (i := i) (rd := rd) (t := t) (o1 := o1) (o2 := o2) (o3 := o3) (.inr hb)
      exact Ne.symm (hn p h _ ho)
    · exact H.offA p h b hb

set_option maxHeartbeats 8000000 in
theorem seg6 (hrow : PySem.Challenge.rw_iy0015_01 = PySem.Challenge.rw_iy0015_01) {w : World} {loose : List Str} {mean : ExcName → Option Value} {mg mb : Str → Option Value} {h₀ : Heap} {L fa ra da : Addr} {cd : Value} {m : Str → Option Value} {s : Shared} {Q : Flow → Shared → Prop} {E : Value → Shared → Prop} {c1 c2 c3 oR : Obj} {dvs : List Value} {dn : Nat} {Tl : List (Addr × Obj)} {kv : List (Int × Value)} {g : List (Int × List Str)} {dl : List (Int × Str)} {i : Ids} {t : Tok} {o1 o2 o3 : Obj} {lvs : List Value} {lc : Nat} {S : HS Str}
    (X : (hd.heap_39 w.params).In h₀) (T : Top hd.view_39 loose mean mg mb h₀) (B : Below callerA h₀ [] h₀)
    (F : Fr h₀ L s.heap m) (N : News h₀ L s.heap (led i S.rd t o1 o2 o3 ++ namedT L ra da c1 c2 c3 oR dvs dn Tl)) (H3 : Holds3 w o1 o2 o3 S) (ky : Keyed g S) (H : Law1 w L ra da c1 c2 oR dvs i kv g dl lvs lc Tl) (k3 : c3.data = .cell (some (.ref i.pl)))
    (done : ∀ h' tk D vs c T2, Fr h₀ L h' (fun z => if z = "told" then some (.ref D) else m z) → News h₀ L h' (led i S.rd t o1 o2 o3 ++ namedT L ra da c1 c2 c3 oR dvs dn T2) → (D, W.listOf vs.toArray c) ∈ T2 → PairsIn T2 vs (srt S.pl) → (∀ p ∈ Tl, p ∈ T2) → Law1 w L ra da c1 c2 oR dvs i kv g dl lvs lc T2 → Q .next { s with heap := h', toks := tk }) :
    wpAny (model PySem.Challenge.rw_iy0015_01.row.prog w) (lawA L fa cd) (exec (LB[6]!) (lawE L fa cd)) Q E s := by
  unfold lawA lawE at *
  obtain ⟨sc, hsc⟩ : ∃ sc, sc = lawScope := ⟨_, rfl⟩
  rw [← hsc]
  conv at hsc => rhs; whnf
  subst hsc
  conv in (LB[6]!) => whnf
  revert X hrow
  w_top off
  k_fill
  intro hrow X
  have D1 := H3.1
  have mpl := H.ap.mpl
  have N0 := N
  simp only [led, List.cons_append, List.nil_append] at N
  k_steps
  rename_i v h2 F2 N2 lv
  unfold Held
  refine sorted_items (l := S.pl) rfl F2 N2 (List.Mem.head _) (by k_mem) D1 (ky.pl_33 H3 H.IA) ?_
  intro D tups vs c h3 tk3 P hD hT F3 N3
  k_steps
  rename_i h4 F4 N4
  refine done h4 _ D vs c (((D, W.listOf vs.toArray c) :: tups) ++ Tl) F4 (fun p hp => N4 p ?_) List.mem_cons_self (P.mono fun p hp => List.mem_cons_of_mem _ (List.mem_append_left _ hp)) (fun p hp => List.mem_append_right _ hp) (H.ext (c3 := c3) (dn := dn) (rd := S.rd) (t := t) (o1 := o1) (o2 := o2) (o3 := o3) fun p hp q hq => ?_)
  · simp only [led, namedT, List.cons_append, List.nil_append, List.mem_cons, List.mem_append] at hp ⊢
    rcases hp with h | h | h | h | h | h | h | h | h | h | h | h | h <;> (repeat (first | with_reducible exact Or.inl h | with_reducible exact h | refine Or.inr ?_))
  · have hq' : q ∈ (v, ({ cls := .type "dict_items", data := .fields #[.ref i.pl] } : Obj)) :: (i.self, instObj 73 i.D) :: (i.D, dObj i S.rd t) :: (i.pl, o1) :: (i.pr, o2) :: (i.dl, o3) :: namedT L ra da c1 c2 c3 oR dvs dn Tl := by
      simp only [led, List.cons_append, List.nil_append] at hq
      exact List.mem_cons_of_mem _ hq
    rcases List.mem_cons.mp hp with h | h
    · rw [h]; exact hD q (List.mem_append_right _ hq')
    · exact hT p h q hq'
end HKP
end SHKLawT

section SHKLawU
local macro_rules | `(tactic| walk_at "no such key") => `(tactic| skip)
local macro_rules | `(tactic| walk_at "no such key") => `(tactic| skip)
local macro_rules | `(tactic| walk_at "no such key") => `(tactic| skip)
set_option maxRecDepth 100000
namespace HKP
open PySem PySem.W PyProof.Rows PySem.Spec PySem.Calls PyProof.Rows.LCg PyProof.Rows.LCp
local macro_rules | `(tactic| walk_at "SrcLP") => `(tactic| (refine held_of ?_))
local macro_rules | `(tactic| walk_at "call type:dict") => `(tactic| (refine held_of ?_))

def SwapsIn (led : List (Addr × Obj)) : List Value → List (Int × Str) → Prop
  | [], [] => True
  | v :: vs, p :: l => (∃ a t t' n, v = .ref a ∧ (a, ({ cls := .type "tuple", data := .seq #[.str p.2 t', .int p.1 t] n } : Obj)) ∈ led) ∧ SwapsIn led vs l
  | _, _ => False
theorem SwapsIn.mono {led led' : List (Addr × Obj)} (hm : ∀ p ∈ led, p ∈ led') : ∀ {vs : List Value} {l : List (Int × Str)}, SwapsIn led vs l → SwapsIn led' vs l
  | [], [], _ => trivial
  | [], _ :: _, h => h.elim
  | _ :: _, [], h => h.elim
  | _ :: _, _ :: _, ⟨⟨a, t, t', n, e, m⟩, r⟩ => ⟨⟨a, t, t', n, e, hm _ m⟩, r.mono hm⟩
theorem SwapsIn.snoc {led : List (Addr × Obj)} {a : Addr} {t t' : Tok} {n : Nat} {p : Int × Str} (hm : (a, ({ cls := .type "tuple", data := .seq #[.str p.2 t', .int p.1 t] n } : Obj)) ∈ led) : ∀ {vs : List Value} {l : List (Int × Str)}, SwapsIn led vs l → SwapsIn led (vs ++ [.ref a]) (l ++ [p])
  | [], [], _ => ⟨⟨a, t, t', n, rfl, hm⟩, trivial⟩
  | [], _ :: _, h => h.elim
  | _ :: _, [], h => h.elim
  | _ :: _, _ :: _, h => ⟨h.1, h.2.snoc hm⟩
theorem SwapsIn.at {led : List (Addr × Obj)} {h₀ h : Heap} {L : Addr} (N : News h₀ L h led) : ∀ {vs : List Value} {l : List (Int × Str)}, SwapsIn led vs l → SwapsAt h vs l
  | [], [], _ => ⟨rfl, fun i v e => by simp at e⟩
  | [], _ :: _, h => h.elim
  | _ :: _, [], h => h.elim
  | v :: vs, p :: l, hs => by
    have ih := hs.2.at N
    refine ⟨by rw [List.length_cons, List.length_cons, ih.1], fun i u e => ?_⟩
    cases i with
    | zero =>
      obtain ⟨a, t, t', n, e1, hm⟩ := hs.1
      simp at e; subst e
      exact ⟨p, a, t, t', n, rfl, e1, (N _ hm).1⟩
    | succ i => simpa using ih.2 i u (by simpa using e)

theorem fr_see {h₀ h : Heap} {L : Addr} {m : Str → Option Value} {x : Str} {v : Value} (F : Fr h₀ L h m) (e : m x = some v) : Fr h₀ L h (fun z => if z = x then some v else m z) := by
  have : (fun z => if z = x then some v else m z) = m := by
    funext z
    by_cases c : z = x
    · rw [if_pos c, c, e]
    · rw [if_neg c]
  rw [this]; exact F

set_option maxHeartbeats 8000000 in
theorem seg7 (hrow : PySem.Challenge.rw_iy0015_01 = PySem.Challenge.rw_iy0015_01) {w : World} {loose : List Str} {mean : ExcName → Option Value} {mg mb : Str → Option Value} {h₀ : Heap} {L fa ra da : Addr} {cd : Value} {m : Str → Option Value} {s : Shared} {Q : Flow → Shared → Prop} {E : Value → Shared → Prop} {c1 c2 c3 oR : Obj} {dvs : List Value} {dn : Nat} {Tl : List (Addr × Obj)} {kv : List (Int × Value)} {g : List (Int × List Str)} {dl : List (Int × Str)} {i : Ids} {rd : Int} {t : Tok} {o1 o2 o3 : Obj} {lvs : List Value} {lc : Nat} {D : Addr} {vs : List Value} {c : Nat} {tl : List (Int × Str)}
    (X : (hd.heap_39 w.params).In h₀) (T : Top hd.view_39 loose mean mg mb h₀) (B : Below callerA h₀ [] h₀)
    (F : Fr h₀ L s.heap (fun z => if z = "told" then some (.ref D) else m z)) (N : News h₀ L s.heap (led i rd t o1 o2 o3 ++ namedT L ra da c1 c2 c3 oR dvs dn Tl)) (H : Law1 w L ra da c1 c2 oR dvs i kv g dl lvs lc Tl) (hD : (D, W.listOf vs.toArray c) ∈ Tl) (P : PairsIn Tl vs tl) (hz : tl.length < 64)
    (done : ∀ h' tk Bk oB T2, Fr h₀ L h' (fun z => if z = "back" then some (.ref Bk) else if z = "told" then some (.ref D) else m z) → News h₀ L h' (led i rd t o1 o2 o3 ++ namedT L ra da c1 c2 c3 oR dvs dn T2) → (Bk == sysModules) = false → (Bk, oB) ∈ T2 → DR (PySem.strKind PR w) encI oB (toDict tl) → (∀ p ∈ Tl, p ∈ T2) → Law1 w L ra da c1 c2 oR dvs i kv g dl lvs lc T2 → Q .next { s with heap := h', toks := tk }) :
    wpAny (model PySem.Challenge.rw_iy0015_01.row.prog w) (lawA L fa cd) (exec (LB[7]!) (lawE L fa cd)) Q E s := by
  unfold lawA lawE at *
  obtain ⟨sc, hsc⟩ : ∃ sc, sc = lawScope := ⟨_, rfl⟩
  rw [← hsc]
  conv at hsc => rhs; whnf
  subst hsc
  conv in (LB[7]!) => whnf
  revert X hrow
  w_top off
  k_fill
  intro hrow X
  have N0 := N
  simp only [led, List.cons_append, List.nil_append] at N
  k_steps
  unfold Held
  have hvs : vs.length < 64 := by rw [P.length]; exact hz
  refine LCp.SrcLP.ledger (its := vs.toArray) (k := c) rfl F N0 (List.mem_append_right _ (List.Mem.tail _ (List.Mem.tail _ (List.Mem.tail _ (List.Mem.tail _ (List.Mem.tail _ hD)))))) (by rw [List.size_toArray, sizeLine_eq]; omega) fun h2 => ?_
  have hsz : vs.toArray.size = vs.length := by simp
  rw [hsz]
  let J : Nat → List Value → List (Addr × Obj) → Prop := fun j ys news => ∃ new, news = led i rd t o1 o2 o3 ++ namedT L ra da c1 c2 c3 oR dvs dn (new ++ Tl) ∧ (∀ p ∈ new, ∀ q ∈ led i rd t o1 o2 o3 ++ namedT L ra da c1 c2 c3 oR dvs dn Tl, q.1 ≠ p.1) ∧ SwapsIn new ys (tl.take j)
  refine rest_P J ?turn ?fin vs.length 0 [] _ (Nat.zero_add _) ⟨[], rfl, fun p hp => (List.not_mem_nil hp).elim, trivial⟩
  case turn =>
    rintro j ys news v hj ⟨new, rfl, hnew, hsw⟩ hv
    have hv' : vs[j]? = some v := by simpa using hv
    obtain ⟨p, a, ta, tb, na, e1, rfl, hm⟩ := P.get hv'
    refine ⟨a, _, .int p.1 ta, .str p.2 tb, na, rfl, List.mem_append_right _ (List.Mem.tail _ (List.Mem.tail _ (List.Mem.tail _ (List.Mem.tail _ (List.Mem.tail _ (List.mem_append_right _ hm)))))), rfl, rfl, ?_⟩
    intro I oI C oC D2 m₂ h3 tk3 E' hC hx1 hx2 F3 N3 off ne
    simp only [led, List.cons_append, List.nil_append] at N3
    have offm := off.mem
    k_steps
    rename_i tt h4 F4 N4 lt
    have hlt : ∀ q ∈ led i rd t o1 o2 o3 ++ namedT L ra da c1 c2 c3 oR dvs dn (new ++ Tl), @LT.lt Nat _ q.1 tt := fun q hq => ktn_ltOf (l := led i rd t o1 o2 o3 ++ namedT L ra da c1 c2 c3 oR dvs dn (new ++ Tl)) lt.2.2.2 q hq
    have sub : ∀ q ∈ led i rd t o1 o2 o3 ++ namedT L ra da c1 c2 c3 oR dvs dn Tl, q ∈ led i rd t o1 o2 o3 ++ namedT L ra da c1 c2 c3 oR dvs dn (new ++ Tl) := fun q hq => by
      rcases List.mem_append.mp hq with h | h
      · exact List.mem_append_left _ h
      · refine List.mem_append_right _ ?_
        simp only [namedT, List.mem_cons, List.mem_append] at h ⊢
        rcases h with h | h | h | h | h | h <;> (repeat (first | with_reducible exact Or.inl h | with_reducible exact h | refine Or.inr ?_))
    have mem' : ∀ q ∈ led i rd t o1 o2 o3 ++ namedT L ra da c1 c2 c3 oR dvs dn (((tt, ({ cls := .type "tuple", data := .seq #[.str p.2 tb, .int p.1 ta] } : Obj)) :: new) ++ Tl), q = (tt, ({ cls := .type "tuple", data := .seq #[.str p.2 tb, .int p.1 ta] } : Obj)) ∨ q ∈ led i rd t o1 o2 o3 ++ namedT L ra da c1 c2 c3 oR dvs dn (new ++ Tl) := by
      intro q hq
      rcases List.mem_append.mp hq with h | h
      · exact .inr (List.mem_append_left _ h)
      · simp only [namedT, List.cons_append, List.mem_cons] at h
        rcases h with h | h | h | h | h | h | h
        · exact .inr (List.mem_append_right _ (by rw [h]; (repeat (first | exact List.Mem.head _ | refine List.Mem.tail _ ?_))))
        · exact .inr (List.mem_append_right _ (by rw [h]; (repeat (first | exact List.Mem.head _ | refine List.Mem.tail _ ?_))))
        · exact .inr (List.mem_append_right _ (by rw [h]; (repeat (first | exact List.Mem.head _ | refine List.Mem.tail _ ?_))))
        · exact .inr (List.mem_append_right _ (by rw [h]; (repeat (first | exact List.Mem.head _ | refine List.Mem.tail _ ?_))))
        · exact .inr (List.mem_append_right _ (by rw [h]; (repeat (first | exact List.Mem.head _ | refine List.Mem.tail _ ?_))))
        · exact .inl h
        · exact .inr (List.mem_append_right _ (List.Mem.tail _ (List.Mem.tail _ (List.Mem.tail _ (List.Mem.tail _ (List.Mem.tail _ h))))))
    refine CompEnd.intro F4 N4 (led i rd t o1 o2 o3 ++ namedT L ra da c1 c2 c3 oR dvs dn (((tt, { cls := .type "tuple", data := .seq #[.str p.2 tb, .int p.1 ta] }) :: new) ++ Tl)) (fun q hq => ?_) (Off3.of fun q hq => ?_) (.inr ⟨_, List.mem_append_right _ (List.Mem.tail _ (List.Mem.tail _ (List.Mem.tail _ (List.Mem.tail _ (List.Mem.tail _ (List.mem_append_right _ hD)))))), rfl, _, rfl⟩) ⟨_, rfl, ?_, ?_⟩
    · rcases List.mem_cons.mp hq with h | hq
      · rw [h]; exact List.Mem.tail _ (List.Mem.head _)
      rcases List.mem_cons.mp hq with h | hq
      · rw [h]; exact List.Mem.tail _ (List.Mem.tail _ (List.Mem.head _))
      rcases List.mem_cons.mp hq with h | hq
      · rw [h]; exact List.Mem.tail _ (List.Mem.tail _ (List.Mem.tail _ (List.Mem.head _)))
      rcases mem' q hq with h | h
      · rw [h]; exact List.Mem.head _
      · exact List.Mem.tail _ (List.Mem.tail _ (List.Mem.tail _ (List.Mem.tail _ h)))
    · rcases mem' q hq with h | h
      · rw [h]; exact ⟨Nat.ne_of_gt lt.1, Nat.ne_of_gt lt.2.1, Nat.ne_of_gt lt.2.2.1⟩
      · exact offm q h
    · intro q hq r hr
      rcases List.mem_cons.mp hq with h | h
      · rw [h]; exact Nat.ne_of_lt (hlt r (sub r hr))
      · exact hnew q h r hr
    · have e3 : tl.take (j + 1) = tl.take j ++ [p] := by rw [List.take_add_one, e1]; rfl
      rw [e3]
      exact SwapsIn.snoc (List.Mem.head _) (hsw.mono fun q hq => List.mem_cons_of_mem _ hq)
  case fin =>
    rintro ys news ⟨new, rfl, hnew, hsw⟩
    intro D2 h4 tk4 F4 N4 off
    have e2 : tl.take vs.length = tl := List.take_of_length_le (by rw [P.length]; exact Nat.le_refl _)
    rw [e2] at hsw
    simp only [led, List.cons_append, List.nil_append] at N4
    have N4' := N4
    k_steps
    unfold Held
    have sub : ∀ q ∈ led i rd t o1 o2 o3 ++ namedT L ra da c1 c2 c3 oR dvs dn Tl, q ∈ (D2, lst ys) :: (led i rd t o1 o2 o3 ++ namedT L ra da c1 c2 c3 oR dvs dn (new ++ Tl)) := fun q hq => by
      refine List.mem_cons_of_mem _ ?_
      rcases List.mem_append.mp hq with h | h
      · exact List.mem_append_left _ h
      · refine List.mem_append_right _ ?_
        simp only [namedT, List.mem_cons, List.mem_append] at h ⊢
        rcases h with h | h | h | h | h | h <;> (repeat (first | with_reducible exact Or.inl h | with_reducible exact h | refine Or.inr ?_))
    refine dict_pairs (l := tl) (vs := ys) rfl F4 N4' (List.Mem.head _) (SwapsIn.at N4' (hsw.mono fun q hq => List.Mem.tail _ (List.mem_append_right (led i rd t o1 o2 o3) (List.Mem.tail _ (List.Mem.tail _ (List.Mem.tail _ (List.Mem.tail _ (List.Mem.tail _ (List.mem_append_left _ hq))))))))) (by omega) (modules_low T.nolimit) ?_
    intro Bk oB h5 tk5 loB dB hneB F5 N5
    k_steps
    rename_i h6 F6 N6
    refine done h6 _ Bk oB (((Bk, oB) :: new) ++ Tl) F6 (fun p hp => N6 p ?_) loB List.mem_cons_self dB (fun p hp => List.mem_append_right _ hp) (H.ext (c3 := c3) (dn := dn) (rd := rd) (t := t) (o1 := o1) (o2 := o2) (o3 := o3) fun p hp q hq => ?_)
    · rcases List.mem_append.mp hp with h | h
      · exact List.Mem.tail _ (List.Mem.tail _ (List.mem_append_left (namedT L ra da c1 c2 c3 oR dvs dn (new ++ Tl)) h))
      · simp only [namedT, List.cons_append, List.mem_cons] at h
        have up : ∀ q ∈ namedT L ra da c1 c2 c3 oR dvs dn (new ++ Tl), q ∈ (Bk, oB) :: (D2, lst ys) :: (led i rd t o1 o2 o3 ++ namedT L ra da c1 c2 c3 oR dvs dn (new ++ Tl)) := fun q hq => List.Mem.tail _ (List.Mem.tail _ (List.mem_append_right _ hq))
        rcases h with h | h | h | h | h | h | h
        · exact up _ (by rw [h]; (repeat (first | exact List.Mem.head _ | refine List.Mem.tail _ ?_)))
        · exact up _ (by rw [h]; (repeat (first | exact List.Mem.head _ | refine List.Mem.tail _ ?_)))
        · exact up _ (by rw [h]; (repeat (first | exact List.Mem.head _ | refine List.Mem.tail _ ?_)))
        · exact up _ (by rw [h]; (repeat (first | exact List.Mem.head _ | refine List.Mem.tail _ ?_)))
        · exact up _ (by rw [h]; (repeat (first | exact List.Mem.head _ | refine List.Mem.tail _ ?_)))
        · rw [h]; exact List.Mem.head _
        · exact up _ (List.Mem.tail _ (List.Mem.tail _ (List.Mem.tail _ (List.Mem.tail _ (List.Mem.tail _ h)))))
    · rcases List.mem_cons.mp hp with h | h
      · rw [h]; exact hneB q (sub q hq)
      · exact hnew p h q hq
end HKP
end SHKLawU

section SHKLawV
local macro_rules | `(tactic| walk_at "no such key") => `(tactic| skip)
local macro_rules | `(tactic| walk_at "no such key") => `(tactic| skip)
local macro_rules | `(tactic| walk_at "no such key") => `(tactic| skip)
set_option maxRecDepth 100000
namespace HKP
open PySem PySem.W PyProof.Rows PySem.Spec PySem.Calls PyProof.Rows.LCg PyProof.Rows.LCt
theorem dr_len {prog : Program} {w : World} {A : Around} {E : Value → Shared → Prop} {s : Shared} {h₀ : Heap} {L d : Addr} {news : List (Addr × Obj)} {K δ : Type} [DecidableEq K] {knd : PySem.KeyKind prog w K} {R : δ → Value → Prop} {o : Obj} {l : List (K × δ)} {Q : Value → Shared → Prop} (N : News h₀ L s.heap news) (hp : (d, o) ∈ news) (hd : DR knd R o l) (lo : (d == sysModules) = false) (hz : l.length ≤ 1000)
    (h : ∀ t, Q (.int l.length t) { s with toks := s.toks + 1 + 1 }) : wpAny (model prog w) A (call (.builtin "len") [.ref d]) Q E s := by
  obtain ⟨kv, hd, hr⟩ := hd
  refine kda_len N hp hd lo (by rw [hr.length]; omega) ?_
  rw [hr.length]; exact h _
local macro_rules | `(tactic| walk_at "CompSrcT") => `(tactic| (refine held_of ?_))
local macro_rules | `(tactic| walk_at "compareOp NotIn ref ref") => `(tactic| (refine held_of ?_))
local macro_rules | `(tactic| walk_at "call builtin:len") => `(tactic| (k_here; (with_reducible show wpAny _ _ (call (Value.builtin "len") [Value.ref _]) _ _ _); k_dflt (first
  | (refine' q_len ?hN ?hp ?hz ?_; (case hN => k_asm); (case hp => (repeat' (first | exact List.Mem.head _ | assumption | refine' List.Mem.tail _ ?_))); (case hz => assumption))
  | (refine' dr_len (knd := PySem.strKind _ _) ?hN ?hp ?hd ?lo ?hz ?_; (case hN => k_asm); (case hp => (repeat' (first | exact List.Mem.head _ | assumption | refine' List.Mem.tail _ ?_))); (case hd => assumption); (case lo => assumption); (case hz => assumption))); intro _))

set_option maxHeartbeats 8000000 in
theorem seg8 (hrow : PySem.Challenge.rw_iy0015_01 = PySem.Challenge.rw_iy0015_01) {w : World} {loose : List Str} {mean : ExcName → Option Value} {mg mb : Str → Option Value} {h₀ : Heap} {L fa ra da : Addr} {cd : Value} {m : Str → Option Value} {s : Shared} {Q : Flow → Shared → Prop} {E : Value → Shared → Prop} {c1 c2 c3 oR : Obj} {dvs : List Value} {dn : Nat} {Tl : List (Addr × Obj)} {kv : List (Int × Value)} {g : List (Int × List Str)} {dl : List (Int × Str)} {i : Ids} {rd : Int} {t : Tok} {o1 o2 o3 : Obj} {lvs : List Value} {lc : Nat} {D Bk : Addr} {oB : Obj} {vs : List Value} {c k' : Nat} {ts : Tok} {tl : List (Int × Str)}
    (X : (hd.heap_39 w.params).In h₀) (T : Top hd.view_39 loose mean mg mb h₀) (B : Below callerA h₀ [] h₀)
    (F : Fr h₀ L s.heap (fun z => if z = "back" then some (.ref Bk) else if z = "told" then some (.ref D) else if z = "size" then some (.int k' ts) else m z)) (N : News h₀ L s.heap (led i rd t o1 o2 o3 ++ namedT L ra da c1 c2 c3 oR dvs dn Tl)) (H : Law1 w L ra da c1 c2 oR dvs i kv g dl lvs lc Tl) (hD : (D, W.listOf vs.toArray c) ∈ Tl) (P : PairsIn Tl vs tl) (hz : tl.length < 64)
    (loB : (Bk == sysModules) = false) (hB : (Bk, oB) ∈ Tl) (dB : DR (PySem.strKind PR w) encI oB (toDict tl)) (hk : tl.length = k') (hk2 : (toDict tl).length = k') (hin : ∀ p ∈ tl, p ∈ dl)
    (done : ∀ h' tk, Fr h₀ L h' (fun z => if z = "back" then some (.ref Bk) else if z = "told" then some (.ref D) else if z = "size" then some (.int k' ts) else m z) → News h₀ L h' (led i rd t o1 o2 o3 ++ namedT L ra da c1 c2 c3 oR dvs dn Tl) → Q .next { s with heap := h', toks := tk }) :
    wpAny (model PySem.Challenge.rw_iy0015_01.row.prog w) (lawA L fa cd) (exec (LB[8]!) (lawE L fa cd)) Q E s := by
  unfold lawA lawE at *
  obtain ⟨sc, hsc⟩ : ∃ sc, sc = lawScope := ⟨_, rfl⟩
  rw [← hsc]
  conv at hsc => rhs; whnf
  subst hsc
  conv in (LB[8]!) => whnf
  revert X hrow
  w_top off
  k_fill
  intro hrow X
  have N0 := N
  have hvs : vs.length = k' := by rw [P.length]; exact hk
  have hvz : vs.length ≤ 1000 := by omega
  have hbz : (toDict tl).length ≤ 1000 := by omega
  have k1 := H.k1
  have k2 := H.k2
  simp only [led, List.cons_append, List.nil_append] at N
  k_steps
  · exfalso; omega
  · exfalso; omega
  unfold Held
  have up : ∀ q ∈ Tl, q ∈ led i rd t o1 o2 o3 ++ namedT L ra da c1 c2 c3 oR dvs dn Tl := fun q hq => List.mem_append_right _ (List.Mem.tail _ (List.Mem.tail _ (List.Mem.tail _ (List.Mem.tail _ (List.Mem.tail _ hq)))))
  refine CompSrcT.ledger (its := vs.toArray) (k := c) rfl F N0 (up _ hD) (by rw [List.size_toArray, sizeLine_eq]; omega) fun h2 => ?_
  have hsz : vs.toArray.size = vs.length := by simp
  rw [hsz]
  let J : Nat → List Value → List (Addr × Obj) → Prop := fun j ys news => ys = [] ∧ news = led i rd t o1 o2 o3 ++ namedT L ra da c1 c2 c3 oR dvs dn Tl
  refine rest_T J ?turn ?fin vs.length 0 [] _ (Nat.zero_add _) ⟨rfl, rfl⟩
  case turn =>
    rintro j ys news v I oI C oC D2 m₂ h3 tk3 E' hj ⟨rfl, rfl⟩ hv hC hx1 F3 N3 off ne
    have hv' : vs[j]? = some v := by simpa using hv
    obtain ⟨p, a, ta, tb, na, e1, rfl, hm⟩ := P.get hv'
    have hpd : (p.1, p.2) ∈ dl := hin p (List.mem_of_getElem? e1)
    have N3' := N3
    simp only [led, List.cons_append, List.nil_append] at N3
    k_steps
    unfold Held
    refine edge_notin (le := p.1) (r := p.2) N3' (List.Mem.tail _ (List.Mem.tail _ (List.Mem.tail _ (up _ hm)))) (List.Mem.tail _ (List.Mem.tail _ (List.Mem.tail _ (List.mem_append_right _ (List.Mem.tail _ (List.Mem.tail _ (List.Mem.tail _ (List.Mem.tail _ (List.Mem.head _))))))))) (H.drawn.mono fun q hq => List.Mem.tail _ (List.Mem.tail _ (List.Mem.tail _ (up q hq)))) H.IA.ok (H.IA.ok _ hpd) (by ke_room) (fun _ => ?_) (fun q => absurd hpd q)
    k_steps
    exact CompEnd.intro F3 N3' (led i rd t o1 o2 o3 ++ namedT L ra da c1 c2 c3 oR dvs dn Tl) (fun p hp => hp) off (.inr ⟨_, up _ hD, rfl, _, rfl⟩) ⟨rfl, rfl⟩
  case fin =>
    rintro ys news ⟨rfl, rfl⟩
    intro D2 h4 tk4 F4 N4 off
    have N4' := N4
    simp only [led, List.cons_append, List.nil_append] at N4
    k_steps
    exact done h4 _ F4 fun p hp => N4' p (List.mem_cons_of_mem _ hp)
end HKP
end SHKLawV

section SHKLawW
set_option maxRecDepth 100000
namespace HKP
open PySem PySem.W PyProof.Rows PySem.Spec PySem.Calls PyProof.Rows.LCg PyProof.Rows.LCt
local macro_rules | `(tactic| walk_at "SrcDT") => `(tactic| (refine held_of ?_))
local macro_rules | `(tactic| walk_at "compareOp NotIn int ref") => `(tactic| (refine held_of ?_))

def freeL (g : List (Int × List Str)) (pl : List (Int × Str)) (j : Nat) : List Int := ((g.map (·.1)).take j).filter fun l => (aget pl l).isNone

theorem off1_mem {D : Addr} : ∀ {l : List (Addr × Obj)}, Off1 D l → ∀ q ∈ l, @Ne Nat q.1 D
  | [], _, _, h => nomatch h
  | p :: l, h, q, hq => by
    rcases List.mem_cons.mp hq with rfl | hq
    · exact h.1
    · exact off1_mem h.2 q hq
set_option maxHeartbeats 8000000 in
theorem seg9 (hrow : PySem.Challenge.rw_iy0015_01 = PySem.Challenge.rw_iy0015_01) {w : World} {loose : List Str} {mean : ExcName → Option Value} {mg mb : Str → Option Value} {h₀ : Heap} {L fa ra da : Addr} {cd : Value} {m : Str → Option Value} {s : Shared} {Q : Flow → Shared → Prop} {E : Value → Shared → Prop} {c1 c2 c3 oR : Obj} {dvs : List Value} {dn : Nat} {Tl : List (Addr × Obj)} {kv : List (Int × Value)} {g : List (Int × List Str)} {dl : List (Int × Str)} {i : Ids} {S : HS Str} {t : Tok} {o1 o2 o3 : Obj} {lvs : List Value} {lc : Nat}
    (X : (hd.heap_39 w.params).In h₀) (T : Top hd.view_39 loose mean mg mb h₀) (B : Below callerA h₀ [] h₀)
    (F : Fr h₀ L s.heap m) (N : News h₀ L s.heap (led i S.rd t o1 o2 o3 ++ namedT L ra da c1 c2 c3 oR dvs dn Tl)) (H3 : Holds3 w o1 o2 o3 S) (H : Law1 w L ra da c1 c2 oR dvs i kv g dl lvs lc Tl) (k3 : c3.data = .cell (some (.ref i.pl)))
    (done : ∀ h' tk D ys, Fr h₀ L h' (fun z => if z = "lefts" then some (.ref D) else m z) → News h₀ L h' ((D, lst ys) :: (led i S.rd t o1 o2 o3 ++ namedT L ra da c1 c2 c3 oR dvs dn Tl)) → (∀ q ∈ led i S.rd t o1 o2 o3 ++ namedT L ra da c1 c2 c3 oR dvs dn Tl, @Ne Nat q.1 D) → IntsAre ys (freeL g S.pl g.length) → Q .next { s with heap := h', toks := tk }) :
    wpAny (model PySem.Challenge.rw_iy0015_01.row.prog w) (lawA L fa cd) (exec (LB[9]!) (lawE L fa cd)) Q E s := by
  unfold lawA lawE at *
  obtain ⟨sc, hsc⟩ : ∃ sc, sc = lawScope := ⟨_, rfl⟩
  rw [← hsc]
  conv at hsc => rhs; whnf
  subst hsc
  conv in (LB[9]!) => whnf
  revert X hrow
  w_top off
  k_fill
  intro hrow X
  have N0 := N
  have k1 := H.k1
  have D1 := H3.1
  have mpl := H.ap.mpl
  simp only [led, List.cons_append, List.nil_append] at N
  k_dflt (refine Assign_ListComp_DT (K := Int) (knd := PySem.intKind _ w) F (by rfl) (by with_unfolding_all rfl) (by with_unfolding_all rfl) (by decide) (by rfl) (by decide) (by rfl) (by rfl) (by rfl) ?_)
  k_steps
  unfold Held
  have hra : (ra, oR) ∈ led i S.rd t o1 o2 o3 ++ namedT L ra da c1 c2 c3 oR dvs dn Tl := List.mem_append_right _ (List.Mem.tail _ (List.Mem.tail _ (List.Mem.tail _ (List.Mem.head _))))
  refine ⟨ra, oR, kv, _, rfl, H.lo, rfl, F, N0, hra, H.LD, by rw [H.LR.length, sizeLine_eq]; have := H.IA.len; omega, fun s₂ hs₂ => ?_⟩
  obtain ⟨h2, rfl⟩ := hs₂
  let J : Nat → List Value → List (Addr × Obj) → Prop := fun j ys news => news = led i S.rd t o1 o2 o3 ++ namedT L ra da c1 c2 c3 oR dvs dn Tl ∧ IntsAre ys (freeL g S.pl j)
  refine rest_T J ?turn ?fin kv.length 0 [] _ (Nat.zero_add _) ⟨rfl, .nil⟩
  case turn =>
    rintro j ys news v I oI C oC D2 m₂ h3 tk3 E' hj ⟨rfl, hI⟩ ⟨l, x, hx, hl⟩ hC hx1 F3 N3 off ne
    obtain ⟨tv, rfl⟩ := Value.isInt_shape hl
    have N3' := N3
    have hkey : (g.map (·.1))[j]? = some l := by
      rw [← H.LR.keys, List.getElem?_map, hx]; rfl
    simp only [led, List.cons_append, List.nil_append] at N3
    k_steps
    unfold Held
    cases ha : aget S.pl l with
    | some r =>
      refine dr_notin_f (knd := PySem.intKind _ _) N3' (List.Mem.tail _ (List.Mem.tail _ (List.Mem.tail _ (List.mem_append_left _ (List.Mem.tail _ (List.Mem.tail _ (List.Mem.head _))))))) D1 mpl (intKind_is _ _ _ _) ha ?_
      k_steps
      refine CompEnd.intro F3 N3' (led i S.rd t o1 o2 o3 ++ namedT L ra da c1 c2 c3 oR dvs dn Tl) (fun p hp => hp) off hra ⟨rfl, ?_⟩
      have : freeL g S.pl (j + 1) = freeL g S.pl j := by
        unfold freeL
        rw [List.take_add_one, hkey, List.filter_append]
        simp [ha]
      rw [this]; exact hI
    | none =>
      refine dr_notin_t (knd := PySem.intKind _ _) N3' (List.Mem.tail _ (List.Mem.tail _ (List.Mem.tail _ (List.mem_append_left _ (List.Mem.tail _ (List.Mem.tail _ (List.Mem.head _))))))) D1 mpl (intKind_is _ _ _ _) ha ?_
      k_steps
      refine CompEnd.intro F3 N3' (led i S.rd t o1 o2 o3 ++ namedT L ra da c1 c2 c3 oR dvs dn Tl) (fun p hp => hp) off hra ⟨rfl, ?_⟩
      have : freeL g S.pl (j + 1) = freeL g S.pl j ++ [l] := by
        unfold freeL
        rw [List.take_add_one, hkey, List.filter_append]
        simp [ha]
      rw [this]; exact ints_snoc hI _ _
  case fin =>
    rintro ys news ⟨rfl, hI⟩
    intro D2 h4 tk4 F4 N4 off
    have e : kv.length = g.length := H.LR.length
    rw [e] at hI
    exact done h4 tk4 D2 ys F4 N4 (fun q hq => off1_mem off q hq) hI
end HKP
end SHKLawW

section SHKLawX
set_option maxRecDepth 100000
namespace HKP
open PySem PySem.W PyProof.Rows PySem.Spec PySem.Calls PyProof.Rows.LCg PyProof.Rows.LCt
local macro_rules | `(tactic| walk_at "compareOp NotIn str ref") => `(tactic| (refine held_of ?_))
local macro_rules | `(tactic| walk_at "call builtin:list.append") => `(tactic| (k_here; refine held_of ?_))
local macro_rules | `(tactic| walk_at "exec For") => `(tactic| (k_here; refine held_of ?_))
local macro_rules | `(tactic| walk_at "pyIter ref") => `(tactic| (k_here; refine held_of ?_))
local macro_rules | `(tactic| walk_at "call builtin:len") => `(tactic| (k_here; (with_reducible show wpAny _ _ (call (Value.builtin "len") [Value.ref _]) _ _ _); k_dflt (refine' q_len ?hN ?hp ?hz ?_; (case hN => k_asm); (case hp => k_mem); (case hz => assumption)); intro _))
local macro_rules | `(tactic| walk_at "getMethod ref") => `(tactic| (k_here; (with_reducible show wpAny _ _ (getMethod (Value.ref _) (PySem.Str.ofString "append") _) _ _ _); k_dflt (refine' q_appendM ?hN ?hp ?_; (case hN => k_asm); (case hp => (repeat' (first | exact List.Mem.head _ | assumption | refine' List.Mem.tail _ ?_))))))
local macro_rules | `(tactic| walk_at "subscriptTail") => `(tactic| (k_here; (with_reducible show wpAny _ _ (subscriptTail _ _ (Value.ref _) (Value.int _ _)) _ _ _); k_dflt (refine' dr_itemR ?hN ?hp ?hd ?hr ?hT ?hl ?_; (case hN => k_asm); (case hp => k_mem); (case hd => assumption); (case hr => assumption); (case hT => assumption); (case hl => assumption)); intro a' vs' n' hv' hm' hm2' hs'))
local macro_rules | `(tactic| walk_at "subscriptTail") => `(tactic| (k_here; (with_reducible show wpAny _ _ (subscriptTail _ _ (Value.ref _) (Value.str _ _)) _ _ _); k_dflt (refine' dr_itemI (knd := PySem.strKind _ _) ?hN ?hp ?hd (strKind_is _ _ _ _) ?hl ?_; (case hN => k_asm); (case hp => (repeat' (first | exact List.Mem.head _ | assumption | refine' List.Mem.tail _ ?_))); (case hd => assumption); (case hl => assumption)); intro _))

theorem str_notin {prog : Program} {w : World} {A : Around} {E : Value → Shared → Prop} {s : Shared} {h₀ : Heap} {L da : Addr} {led : List (Addr × Obj)} {r : Str} {t : Tok} {dn : Nat} {vs : List Value} {rs : List Str} {Q : Value → Shared → Prop}
    (N : News h₀ L s.heap led) (md : (da, W.listOf vs.toArray dn) ∈ led) (D : StrsAre vs rs) (ok : ∀ p ∈ rs, PyData.strOk p = true) (hr : PyData.strOk r = true) (hu : A.units + 64 < cLine)
    (h1 : r ∈ rs → Q (.bool false) s) (h2 : r ∉ rs → Q (.bool true) s) : wpAny (model prog w) A (compareOp .NotIn (.str r t) (.ref da)) Q E s := by
  classical
  have inj : Dat.str r ∈ rs.map .str ↔ r ∈ rs := by
    rw [List.mem_map]
    exact ⟨fun ⟨q, hq, e⟩ => by cases e; exact hq, fun h => ⟨r, h, rfl⟩⟩
  refine kqd_notIn N md rfl rfl (strs_dat (T := []) D) (fun _ h => nomatch h) (n₂ := []) (.str _ _) (fun _ h => nomatch h) (fun d hd => ?_) (by simp [kqdOk, hr]) hu ?_
  · obtain ⟨x, hx, rfl⟩ := List.mem_map.mp hd
    simp [kqdOk, ok x hx]
  by_cases hin : r ∈ rs
  · rw [decide_eq_true (inj.mpr hin)]; exact h1 hin
  · rw [decide_eq_false (fun h => hin (inj.mp h))]; exact h2 hin

theorem strs_item : ∀ {vs : List Value} {ns : List Str}, StrsAre vs ns → ∀ (i : Nat) (v : Value), vs[i]? = some v → ∃ y t, v = .str y t ∧ ns[i]? = some y := by
  intro vs ns h
  induction h with
  | nil => intro i v hv; simp at hv
  | cons n t _ ih =>
    intro i v hv
    cases i with
    | zero => simp at hv; subst hv; exact ⟨n, t, rfl, rfl⟩
    | succ i => simpa using ih i v (by simpa using hv)
theorem see_eq {m : Str → Option Value} {x : Str} {v : Value} (e : m x = some v) : (fun z => if z = x then some v else m z) = m := by
  funext z
  by_cases c : z = x
  · rw [if_pos c, c, e]
  · rw [if_neg c]
structure Cw where
  vL : List Value
  nL : Nat
  qs : List Int
  vR : List Value
  nR : Nat
  rs : List Str
  p : Nat
  tp : Tok
abbrev Cw.led (c : Cw) (La Ra : Addr) (core : List (Addr × Obj)) : List (Addr × Obj) := (La, W.listOf c.vL.toArray c.nL) :: (Ra, W.listOf c.vR.toArray c.nR) :: core
structure Cw.Ok (c : Cw) (g : List (Int × List Str)) (good : Int → Prop) (n0 : Nat) : Prop where
  iL : IntsAre c.vL c.qs
  iR : StrsAre c.vR c.rs
  good : ∀ l ∈ c.qs, good l
  nd : c.rs.Nodup
  sub : ∀ r ∈ c.rs, r ∈ rights g
  len : c.qs.length = n0 + c.rs.length

set_option maxHeartbeats 8000000 in
theorem seg12 (hrow : PySem.Challenge.rw_iy0015_01 = PySem.Challenge.rw_iy0015_01) {w : World} {loose : List Str} {mean : ExcName → Option Value} {mg mb : Str → Option Value} {h₀ : Heap} {L fa ra da : Addr} {cd : Value} {m : Str → Option Value} {s : Shared} {Q : Flow → Shared → Prop} {E : Value → Shared → Prop} {c1 c2 c3 oR : Obj} {dvs : List Value} {dn : Nat} {Tl : List (Addr × Obj)} {kv : List (Int × Value)} {g : List (Int × List Str)} {dl : List (Int × Str)} {i : Ids} {rd : Int} {t tp0 : Tok} {o1 o2 o3 : Obj} {lvs : List Value} {lc : Nat} {La Ra Bk : Addr} {oB : Obj} {bk : List (Str × Int)} {ys : List Value} {qs0 : List Int} {good : Int → Prop}
    (X : (hd.heap_39 w.params).In h₀) (T : Top hd.view_39 loose mean mg mb h₀) (B : Below callerA h₀ [] h₀) (hE : PassesOwn (model PySem.Challenge.rw_iy0015_01.row.prog w) (lawA L fa cd) (lawE L fa cd) E)
    (F : Fr h₀ L s.heap (fun z => if z = "place" then some (.int 0 tp0) else if z = "reached" then some (.ref Ra) else if z = "lefts" then some (.ref La) else if z = "back" then some (.ref Bk) else m z))
    (N : News h₀ L s.heap ((La, W.listOf ys.toArray ys.length) :: (Ra, W.listOf #[] 0) :: (led i rd t o1 o2 o3 ++ namedT L ra da c1 c2 c3 oR dvs dn Tl))) (hLR : @Ne Nat La Ra) (hLa : ∀ q ∈ led i rd t o1 o2 o3 ++ namedT L ra da c1 c2 c3 oR dvs dn Tl, @Ne Nat q.1 La) (hRa : ∀ q ∈ led i rd t o1 o2 o3 ++ namedT L ra da c1 c2 c3 oR dvs dn Tl, @Ne Nat q.1 Ra)
    (H : Law1 w L ra da c1 c2 oR dvs i kv g dl lvs lc Tl) (loB : (Bk == sysModules) = false) (hB : (Bk, oB) ∈ Tl) (dB : DR (PySem.strKind PR w) encI oB bk) (hI : IntsAre ys qs0) (hqs : qs0.length ≤ 33)
    (gr : ∀ l, good l → ∃ row, aget g l = some row) (gb : ∀ l row r, good l → aget g l = some row → r ∈ row → ∃ o, aget bk r = some o ∧ good o) (gf : ∀ l ∈ qs0, good l)
    (done : ∀ h' tk m', Fr h₀ L h' m' → (∀ z : Str, z ≠ "place" → z ≠ "right" → m' z = (if z = "reached" then some (.ref Ra) else if z = "lefts" then some (.ref La) else if z = "back" then some (.ref Bk) else m z)) → News h₀ L h' (led i rd t o1 o2 o3 ++ namedT L ra da c1 c2 c3 oR dvs dn Tl) → Q .next { s with heap := h', toks := tk }) :
    wpAny (model PySem.Challenge.rw_iy0015_01.row.prog w) (lawA L fa cd) (exec (LB[12]!) (lawE L fa cd)) Q E s := by
  unfold lawA lawE at *
  obtain ⟨sc, hsc⟩ : ∃ sc, sc = lawScope := ⟨_, rfl⟩
  rw [← hsc] at hE ⊢
  conv at hsc => rhs; whnf
  subst hsc
  conv in (LB[12]!) => whnf
  revert X hrow
  w_top off
  k_fill
  intro hrow X
  obtain ⟨core, hcore⟩ : ∃ core, core = led i rd t o1 o2 o3 ++ namedT L ra da c1 c2 c3 oR dvs dn Tl := ⟨_, rfl⟩
  rw [← hcore] at N hLa hRa
  refine ksw_while (σ := Cw) (L := L) (fun c => c.led La Ra core) (fun c => [("place", .int c.p c.tp)]) (fun _ => True) ["right"] (fun c => c.Ok g good qs0.length) (fun c => qs0.length + (rights g).length - c.p) ⟨ys, ys.length, qs0, [], 0, [], 0, tp0⟩
    F N trivial (fun p hp => by obtain rfl := List.mem_singleton.mp hp; rfl) ⟨hI, .nil, gf, .nil, (fun r h => (List.not_mem_nil h).elim), rfl⟩ ?turn hE
  case turn =>
    rintro ⟨vL, nL, qs, vR, nR, rs, p, tp⟩ u h2 tk2 - ⟨iL, iR, hgood, hnd, hsub, hlen⟩ F2 N2
    dsimp only at iL iR hgood hnd hsub hlen F2 N2
    have k1 := H.k1
    have LD := H.LD
    have LR := H.LR
    have hrsl : rs.length ≤ (rights g).length := nodup_le hnd hsub
    have hr20 : (rights g).length ≤ 20 := Nat.le_trans H.IA.rl H.IA.dlen
    have hvL : vL.length ≤ 1000 := by rw [iL.length]; omega
    have hvR : vR.length ≤ 1000 := by rw [iR.length]; omega
    have N3 := N2
    simp only [Cw.led, hcore, led, List.cons_append, List.nil_append] at N2
    with_reducible show wpAny _ _ _ _ _ _
    k_fold
    k_steps
    rotate_left
    · refine done h2 _ _ F2 (fun z z1 z2 => ?_) (fun q hq => N3 q (List.Mem.tail _ (List.Mem.tail _ (hcore ▸ hq))))
      have c : (["right"] : List Str).contains z = false := not_one z2
      show (if z = _ then _ else if (["right"] : List Str).contains z = true then _ else _) = _
      rw [if_neg z1, c, if_neg (by decide), if_neg z1]
    unfold Held
    have hp : p < qs.length := by rw [← iL.length]; omega
    have hgl : good (qs.getD ((p : Int)).toNat 0) := by
      have e : qs.getD ((p : Int)).toNat 0 = qs[p] := by simp [hp]
      rw [e]; exact hgood _ (List.getElem_mem hp)
    generalize hlq : qs.getD ((p : Int)).toNat 0 = l at hgl
    obtain ⟨row, hrw⟩ := gr l hgl
    rw [← hlq] at hrw
    have hTT : ∀ q ∈ Tl, q ∈ Tl := fun q hq => hq
    have hpz : 0 ≤ (p : Int) := by omega
    (with_unfolding_all refine' For_invVF F2 ?k1 ?k2 ?_ (hE := hE); (case k1 => exact rfl); (case k2 => exact rfl))
    k_steps
    rename_i ra' rv rn hrv hrm hrm2 hrs
    unfold Held
    have hcm : ∀ q ∈ Tl, q ∈ core := fun q hq => hcore ▸ List.mem_append_right _ (List.Mem.tail _ (List.Mem.tail _ (List.Mem.tail _ (List.Mem.tail _ (List.Mem.tail _ hq)))))
    generalize hm₁ : kstB (fun z => if (["right"] : List Str).contains z = true then u z else if z = "place" then some (.int 0 tp0) else if z = "reached" then some (.ref Ra) else if z = "lefts" then some (.ref La) else if z = "back" then some (.ref Bk) else m z) [("place", .int p tp)] = m₁ at F2
    have b1 : m₁ "back" = some (.ref Bk) := by rw [← hm₁]; rfl
    have b2 : m₁ "reached" = some (.ref Ra) := by rw [← hm₁]; rfl
    have b3 : m₁ "lefts" = some (.ref La) := by rw [← hm₁]; rfl
    refine kdl_iter (vs := rv) (nn := rn) (news := (La, W.listOf vL.toArray nL) :: (Ra, W.listOf vR.toArray nR) :: core) (fun j m' nx => ∃ vL nL qs vR nR rs, nx = (La, W.listOf vL.toArray nL) :: (Ra, W.listOf vR.toArray nR) :: core ∧ Cw.Ok ⟨vL, nL, qs, vR, nR, rs, p, tp⟩ g good qs0.length ∧ p < qs.length ∧ ∀ z : Str, z ≠ "right" → m' z = m₁ z) rfl (List.Mem.tail _ (List.Mem.tail _ (hcm _ hrm))) F2 N3 ⟨vL, nL, qs, vR, nR, rs, rfl, ⟨iL, iR, hgood, hnd, hsub, hlen⟩, hp, fun z _ => rfl⟩ ?turn2 ?done2
    case done2 =>
      rintro m₂ nx h3 tk3 ⟨vL, nL, qs, vR, nR, rs, rfl, ok, hp2, hm2⟩ F3 N3
      dsimp only
      have b0 : m₁ "place" = some (.int p tp) := by rw [← hm₁]; rfl
      have F4 := fr_see F3 ((hm2 "place" (by decide)).trans b0)
      clear F3 F2
      k_steps
      rename_i h4 F5 N5
      exact ksw_end (⟨_, _, _, _, _, _, p + 1, _⟩ : Cw) F5 N5 (fun q hq => hq) trivial (fun q hq => by obtain rfl := List.mem_singleton.mp hq; rfl) (fun z z1 z2 => by
        have zp : z ≠ "place" := z1 _ (List.mem_singleton.mpr rfl)
        have zr : z ≠ "right" := fun e => by rw [e] at z2; exact absurd z2 (by decide)
        rw [if_neg zp, if_neg zp, hm2 z zr, ← hm₁]
        show (if z = _ then _ else if (["right"] : List Str).contains z = true then _ else _) = _
        rw [if_neg zp, z2, if_neg (by decide)]) ⟨ok.iL, ok.iR, ok.good, ok.nd, ok.sub, ok.len⟩ (by
        have q1 := nodup_le ok.nd ok.sub
        have q2 := ok.len
        dsimp only at q1 q2 ⊢
        omega)
    case turn2 =>
      rintro j v m₂ nx h3 tk3 own hv hoff - ⟨vL, nL, qs, vR, nR, rs, rfl, ⟨iL, iR, hgood, hnd, hsub, hlen⟩, hp2, hm2⟩ F3 N3
      dsimp only at iL iR hgood hnd hsub hlen
      obtain ⟨r, tr, rfl, hr⟩ := strs_item hrs j v hv
      have hrr : r ∈ row := List.mem_of_getElem? hr
      obtain ⟨o, ho, hgo⟩ := gb l row r hgl (hlq ▸ hrw) hrr
      have hrd : (l, r) ∈ dl := (H.IA.mem l r).mpr ⟨row, aget_mem (hlq ▸ hrw), hrr⟩
      obtain ⟨mb', hmb⟩ : ∃ mb' : Str → Option Value, mb' = fun y : Str => if y = "right" then some (Value.str r tr) else m₂ y := ⟨_, rfl⟩
      have F3' : Fr h₀ L h3 mb' := hmb ▸ F3
      have e0 : mb' "right" = some (.str r tr) := by rw [hmb]; rfl
      have e1 : mb' "back" = some (.ref Bk) := by rw [hmb]; exact (hm2 "back" (by decide)).trans b1
      have e2 : mb' "reached" = some (.ref Ra) := by rw [hmb]; exact (hm2 "reached" (by decide)).trans b2
      have e3 : mb' "lefts" = some (.ref La) := by rw [hmb]; exact (hm2 "lefts" (by decide)).trans b3
      have em3 := see_eq (m := mb') e3
      have e2' := (congrFun em3 "reached").trans e2
      have em2 := (see_eq (m := fun z : Str => if z = "lefts" then some (Value.ref La) else mb' z) e2').trans em3
      have e1' := (congrFun em2 "back").trans e1
      have em1 := (see_eq (m := fun z : Str => if z = "reached" then some (Value.ref Ra) else if z = "lefts" then some (Value.ref La) else mb' z) e1').trans em2
      have e0' := (congrFun em1 "right").trans e0
      have em0 := (see_eq (m := fun z : Str => if z = "back" then some (Value.ref Bk) else if z = "reached" then some (Value.ref Ra) else if z = "lefts" then some (Value.ref La) else mb' z) e0').trans em1
      have F4 := fr_see (x := "right") (fr_see (x := "back") (fr_see (x := "reached") (fr_see (x := "lefts") F3' e3) e2') e1') e0'
      have em : ∀ z : Str, z ≠ "right" → mb' z = m₁ z := fun z hz => by
        rw [hmb]
        show (if z = _ then _ else m₂ z) = _
        rw [if_neg hz]; exact hm2 z hz
      clear F3 F2 F3'
      have N4 := N3
      have hrs20 : rs.length ≤ (rights g).length := nodup_le hnd hsub
      have hzL : vL.length ≤ 1000 := by rw [iL.length]; omega
      have hzR : vR.length ≤ 1000 := by rw [iR.length]; omega
      simp only [List.cons_append] at N3
      obtain ⟨T', hT'⟩ : ∃ T', T' = core ++ own := ⟨_, rfl⟩
      rw [← hT'] at N3
      have hB' : (Bk, oB) ∈ T' := hT' ▸ List.mem_append_left _ (hcm _ hB)
      k_steps
      unfold Held
      refine dr_notin_f (knd := PySem.strKind _ _) N3 (List.Mem.tail _ (List.Mem.tail _ hB')) dB loB (strKind_is _ _ _ _) ho ?_
      k_steps
      unfold Held
      have rok : ∀ x ∈ rs, PyData.strOk x = true := fun x hx => by
        obtain ⟨p', hp', hx'⟩ := List.mem_flatMap.mp (hsub x hx)
        exact H.IA.ok (p'.1, x) ((H.IA.mem p'.1 x).mpr ⟨p'.2, hp', hx'⟩)
      refine str_notin N3 (List.Mem.tail _ (List.Mem.head _)) iR rok (H.IA.ok _ hrd) (by ke_room) (fun hin => ?_) (fun hin => ?_)
      · k_steps
        exact ⟨h3, _, _, _, (La, W.listOf vL.toArray nL) :: (Ra, W.listOf vR.toArray nR) :: core, rfl, F4, N4, fun q hq => List.mem_append_left _ hq, fun q hq => List.mem_append_right _ hq, hoff, List.Mem.tail _ (List.Mem.tail _ (hcm _ hrm)), vL, nL, qs, vR, nR, rs, rfl, ⟨iL, iR, hgood, hnd, hsub, hlen⟩, hp2, fun z hz => (congrFun em0 z).trans (em z hz)⟩
      · have hcr : ∀ q ∈ T', @Ne Nat q.1 La ∧ @Ne Nat q.1 Ra := by
          intro q hq
          rw [hT'] at hq
          rcases List.mem_append.mp hq with h | h
          · exact ⟨hLa q h, hRa q h⟩
          · exact ⟨hoff q h La (List.Mem.head _), hoff q h Ra (List.Mem.tail _ (List.Mem.head _))⟩
        k_steps
        unfold Held
        refine q_append F4 N3 (.tail hLR (.head fun q hq => (hcr q hq).2)) hzR ?_
        intro h5 F5 N5
        k_steps
        rename_i tok
        unfold Held
        refine q_append F5 N5 (.head fun q hq => ?_) hzL ?_
        · rcases List.mem_cons.mp hq with h | h
          · rw [h]; exact Ne.symm hLR
          · exact (hcr q h).1
        intro h6 F6 N6
        k_steps
        have hcT : ∀ q ∈ core, q ∈ T' := fun q hq => hT' ▸ List.mem_append_left _ hq
        have hoT : ∀ q ∈ own, q ∈ T' := fun q hq => hT' ▸ List.mem_append_right _ hq
        refine ⟨h6, _, _, _, (La, W.listOf (vL ++ [Value.int o tok]).toArray (nL + 1)) :: (Ra, W.listOf (vR ++ [Value.str r tr]).toArray (nR + 1)) :: core, rfl, F6, N6, ?_, fun q hq => List.Mem.tail _ (List.Mem.tail _ (hoT q hq)), hoff, List.Mem.tail _ (List.Mem.tail _ (hcm _ hrm)), vL ++ [Value.int o tok], nL + 1, qs ++ [o], vR ++ [Value.str r tr], nR + 1, rs ++ [r], rfl, ⟨ints_snoc iL _ _, strs_snoc iR _ _, ?_, ?_, ?_, ?_⟩, ?_, fun z hz => (congrFun em0 z).trans (em z hz)⟩
        · intro q hq
          rcases List.mem_cons.mp hq with h | hq
          · rw [h]; exact List.Mem.head _
          rcases List.mem_cons.mp hq with h | hq
          · rw [h]; exact List.Mem.tail _ (List.Mem.head _)
          exact List.Mem.tail _ (List.Mem.tail _ (hcT q hq))
        · intro x hx
          rcases List.mem_append.mp hx with h | h
          · exact hgood x h
          · rw [List.mem_singleton.mp h]; exact hgo
        · show (rs ++ [r]).Nodup
          rw [List.nodup_append]
          refine ⟨hnd, by simp, fun a ha b hb => ?_⟩
          rw [List.mem_singleton.mp hb]
          exact fun e => hin (e ▸ ha)
        · intro x hx
          rcases List.mem_append.mp hx with h | h
          · exact hsub x h
          · rw [List.mem_singleton.mp h]
            exact List.mem_flatMap.mpr ⟨(l, row), aget_mem (hlq ▸ hrw), hrr⟩
        · simp only [List.length_append, List.length_singleton]; omega
        · simp only [List.length_append, List.length_singleton]; omega
end HKP
end SHKLawX

section SHKLawY
set_option maxRecDepth 100000
namespace HKP
open PySem PySem.W PyProof.Rows PySem.Spec PySem.Calls PyProof.Rows.LCg PyProof.Rows.LCt
local macro_rules | `(tactic| walk_at "eval ListComp") => `(tactic| (k_here; refine held_of ?_))
local macro_rules | `(tactic| walk_at "SrcD") => `(tactic| (refine held_of ?_))
local macro_rules | `(tactic| walk_at "compareOp Eq ref ref") => `(tactic| (refine held_of ?_))
local macro_rules | `(tactic| walk_at "subscriptTail") => `(tactic| (k_here; (with_reducible show wpAny _ _ (subscriptTail _ _ (Value.ref _) (Value.int _ _)) _ _ _); k_dflt (refine' dr_itemR ?hN ?hp ?hd ?hr ?hT ?hl ?_; (case hN => k_asm); (case hp => k_mem); (case hd => assumption); (case hr => assumption); (case hT => assumption); (case hl => assumption)); intro a' vs' n' hv' hm' hm2' hs'))
local macro_rules | `(tactic| walk_at "call type:list") => `(tactic| (k_here; (with_reducible show wpAny _ _ (call (Value.type _) [Value.ref _]) _ _ _); k_dflt (refine' list_copyN ?hF ?hN ?hm ?hz ?_; (case hF => k_asm); (case hN => k_asm); (case hm => (repeat' (first | assumption | refine' List.Mem.tail _ ?_))); (case hz => (have hb9 := StrsAre.length (by assumption); omega))); intro D' c' h' F' N' l1; (try k_lt l1); (try k_sweep)))

set_option maxHeartbeats 8000000 in
theorem seg14 (hrow : PySem.Challenge.rw_iy0015_01 = PySem.Challenge.rw_iy0015_01) {w : World} {loose : List Str} {mean : ExcName → Option Value} {mg mb : Str → Option Value} {h₀ : Heap} {L fa ra da : Addr} {cd : Value} {m : Str → Option Value} {s : Shared} {Q : Flow → Shared → Prop} {E : Value → Shared → Prop} {c1 c2 c3 oR : Obj} {dvs : List Value} {dn : Nat} {Tl : List (Addr × Obj)} {kv : List (Int × Value)} {g : List (Int × List Str)} {dl : List (Int × Str)} {i : Ids} {lvs : List Value} {lc : Nat} {D : Addr} {ys : List Value}
    (X : (hd.heap_39 w.params).In h₀) (T : Top hd.view_39 loose mean mg mb h₀)
    (F : Fr h₀ L s.heap (fun z => if z = "before" then some (.ref D) else m z)) (N : News h₀ L s.heap (namedT L ra da c1 c2 c3 oR dvs dn Tl)) (H : Law1 w L ra da c1 c2 oR dvs i kv g dl lvs lc Tl)
    (hD : (D, lst ys) ∈ Tl) (hys : DatAll Tl ys (g.map rdD))
    (done : ∀ h' tk m', Fr h₀ L h' m' → Q (.ret (.bool true)) { s with heap := h', toks := tk }) :
    wpAny (model PySem.Challenge.rw_iy0015_01.row.prog w) (lawA L fa cd) (exec (LB[14]!) (lawE L fa cd)) Q E s := by
  unfold lawA lawE at *
  obtain ⟨sc, hsc⟩ : ∃ sc, sc = lawScope := ⟨_, rfl⟩
  rw [← hsc]
  conv at hsc => rhs; whnf
  subst hsc
  conv in (LB[14]!) => whnf
  revert X hrow
  w_top off
  k_fill
  intro hrow X
  have LR := H.LR
  have LD := H.LD
  have lo := H.lo
  have k1 := H.k1
  have hrow20 : ∀ {l row}, aget g l = some row → row.length ≤ 20 := fun h => Nat.le_trans (rights_le (aget_mem h)) (Nat.le_trans H.IA.rl H.IA.dlen)
  k_steps
  unfold Held
  k_dflt (refine ListComp_D (K := Int) (knd := PySem.intKind _ w) F (by with_unfolding_all rfl) (by decide) (by rfl) (by decide) (by rfl) ?_)
  k_steps
  unfold Held
  refine ⟨ra, oR, kv, _, rfl, lo, rfl, F, N, (List.Mem.tail _ (List.Mem.tail _ (List.Mem.tail _ (List.Mem.head _)))), LD, by rw [LR.length, sizeLine_eq]; have := H.IA.len; omega, fun s₂ hs₂ => ?_⟩
  obtain ⟨h2, rfl⟩ := hs₂
  let J : Nat → List Value → List (Addr × Obj) → Prop := fun i ys news => ∃ T2, news = (L + 1, c1) :: (L + 1 + 1, c2) :: (L + 1 + 1 + 1, c3) :: (ra, oR) :: (da, W.listOf dvs.toArray dn) :: T2 ∧ (∀ p ∈ Tl, p ∈ T2) ∧ OwnOff T2 [L + 1, L + 1 + 1, L + 1 + 1 + 1, ra, da] ∧ DatAll T2 ys ((g.take i).map rdD)
  refine rest_U J ?turn ?fin kv.length 0 [] _ (Nat.zero_add _) ⟨Tl, rfl, fun p hp => hp, H.offN, .nil⟩
  case turn =>
    rintro i ys news v I oI C oC D m₂ h3 tk3 E' hi ⟨T2, rfl, hT, hoff, hD⟩ ⟨l, x, hx, hl⟩ hC hx2 F3 N3 off ne
    obtain ⟨tl, rfl⟩ := Value.isInt_shape hl
    simp only [Off3, and_true] at off
    have hrl : ∃ row, g[i]? = some (l, row) ∧ aget g l = some row := by
      obtain ⟨row, e1, _⟩ := rep_at LR hx
      exact ⟨row, e1, aget_of_mem H.IA.nd (List.mem_of_getElem? e1)⟩
    obtain ⟨row, hg, hrw⟩ := hrl
    have hrow20 : row.length ≤ 20 := Nat.le_trans (rights_le (aget_mem hrw)) (Nat.le_trans H.IA.rl H.IA.dlen)
    obtain ⟨o1, o2, o3, o4, o5, o6⟩ := off
    obtain ⟨n1, n2, n3⟩ := ne
    k_steps
    rename_i a vs n hv hm hm2 hs b cb hb1 lb t ht1 F4 N4 lt
    obtain ⟨b1, b2, b3, b4, b5, b6, b7, b8, b9⟩ := lb
    obtain ⟨t0, t1, t2, t3, t4, t5, t6, t7, t8, t9⟩ := lt
    refine CompEnd.intro F4 N4 ((L + 1, c1) :: (L + 1 + 1, c2) :: (L + 1 + 1 + 1, c3) :: (ra, oR) :: (da, W.listOf dvs.toArray dn) :: (t, { cls := .type "tuple", data := .seq #[.int l tl, .ref b] }) :: (b, W.listOf vs.toArray cb) :: T2) (fun p hp => ?_) ⟨o1, o2, o3, o4, o5, ⟨Nat.ne_of_gt t1, Nat.ne_of_gt t2, Nat.ne_of_gt t3⟩, ⟨Nat.ne_of_gt b1, Nat.ne_of_gt b2, Nat.ne_of_gt b3⟩, o6⟩ (by simp) ⟨_, rfl, fun p hp => List.mem_cons_of_mem _ (List.mem_cons_of_mem _ (hT p hp)), ?_, ?_⟩
    · simp only [List.mem_cons] at hp ⊢
      rcases hp with h | h | h | h | h | h | h | h | h | h | h <;> (repeat (first | with_reducible exact Or.inl h | with_reducible exact h | refine Or.inr ?_))
    · intro p hp q hq
      simp only [List.mem_cons, List.not_mem_nil, or_false] at hq
      rcases List.mem_cons.mp hp with h | h
      · rw [h]
        rcases hq with h | h | h | h | h
        · rw [h]; exact Nat.ne_of_gt t4
        · rw [h]; exact Nat.ne_of_gt t5
        · rw [h]; exact Nat.ne_of_gt t6
        · rw [h]; exact Nat.ne_of_gt t7
        · rw [h]; exact Nat.ne_of_gt t8
      · rcases List.mem_cons.mp h with h | h
        · rw [h]
          rcases hq with h | h | h | h | h
          · rw [h]; exact Nat.ne_of_gt b4
          · rw [h]; exact Nat.ne_of_gt b5
          · rw [h]; exact Nat.ne_of_gt b6
          · rw [h]; exact Nat.ne_of_gt b7
          · rw [h]; exact Nat.ne_of_gt b8
        · exact hoff p h q (by simp only [List.mem_cons, List.not_mem_nil, or_false]; exact hq)
    · have e1 : (g.take (i + 1)).map rdD = (g.take i).map rdD ++ [rdD (l, row)] := by
        rw [List.take_add_one, hg, List.map_append]; rfl
      rw [e1]
      refine (hD.mono fun p hp => List.mem_cons_of_mem _ (List.mem_cons_of_mem _ hp)).append (.one ?_)
      exact .tuple (vs := [.int l tl, .ref b]) (List.Mem.head _) (.cons (.int _ _) (.cons (.list (List.Mem.tail _ (List.Mem.head _)) (strs_dat hs)) .nil))
  case fin =>
    rintro ys2 news ⟨T2, rfl, hT, hoff, hD2⟩
    intro D2 h4 tk4 F4 N4 off
    have hgl : g.take kv.length = g := List.take_of_length_le (by rw [LR.length]; exact Nat.le_refl _)
    rw [hgl] at hD2
    k_steps
    unfold Held
    have hok : ∀ d ∈ g.map rdD, kqdOk 8 d = true := by
      intro d hd
      obtain ⟨p, hp, rfl⟩ := List.mem_map.mp hd
      have : ∀ x ∈ p.2, PyData.strOk x = true := fun x hx => H.IA.ok (p.1, x) ((H.IA.mem p.1 x).mpr ⟨p.2, hp, hx⟩)
      simp only [rdD, kqdOk, List.all_cons, List.all_nil, Bool.and_true, Bool.true_and, List.all_eq_true]
      intro e he
      obtain ⟨x, hx, rfl⟩ := List.mem_map.mp he
      simp only [kqdOk]
      exact this x hx
    have up : ∀ q ∈ T2, q ∈ (D2, lst ys2) :: namedT L ra da c1 c2 c3 oR dvs dn T2 := fun q hq => List.Mem.tail _ (List.Mem.tail _ (List.Mem.tail _ (List.Mem.tail _ (List.Mem.tail _ (List.Mem.tail _ hq)))))
    refine kqd_eq N4 (List.Mem.head _) rfl rfl hD2 up (up _ (hT _ hD)) rfl rfl hys (fun q hq => up q (hT q hq)) hok hok (by ke_room) ?_
    simp only [decide_true]
    exact done h4 _ _ F4
end HKP
end SHKLawY

section SHKLawZ
local macro_rules | `(tactic| walk_at "no such key") => `(tactic| skip)
set_option maxRecDepth 100000
namespace HKP
open PySem PySem.W PyProof.Rows PySem.Spec PySem.Calls PyProof.Rows.LCg
local macro_rules | `(tactic| walk_at "call ref") => `(tactic| (k_here; refine held_of ?_))
local macro_rules | `(tactic| walk_at "getMethod ref") => `(tactic| (k_here; (with_reducible show wpAny _ _ (getMethod (Value.ref _) (PySem.Str.ofString "items") _) _ _ _); k_dflt (refine' dr_itemsM (knd := PySem.intKind _ _) ?hN ?hp ?hd ?_; (case hN => k_asm); (case hp => k_mem); (case hd => assumption))))
local macro_rules | `(tactic| walk_at "call builtin:dict.items") => `(tactic| (k_here; k_dflt (refine' dr_items (knd := PySem.intKind _ _) ?hF ?hN ?hp ?hd ?lo ?_; (case hF => k_asm); (case hN => k_asm); (case hp => k_mem); (case hd => assumption); (case lo => assumption)); intro D' h' F' N' l1; (try k_lt l1)))
local macro_rules | `(tactic| walk_at "call builtin:sorted") => `(tactic| (k_here; refine held_of ?_))
local macro_rules | `(tactic| walk_at "compareOp NotEq ref ref") => `(tactic| (refine held_of ?_))
theorem pairs_same {prog : Program} {w : World} {A : Around} {E : Value → Shared → Prop} {s : Shared} {h₀ : Heap} {L a b : Addr} {led : List (Addr × Obj)} {vs ws : List Value} {n k : Nat} {l : List (Int × Str)} {Q : Value → Shared → Prop} (N : News h₀ L s.heap led) (ma : (a, W.listOf vs.toArray n) ∈ led) (Pa : PairsIn led vs l) (mb : (b, W.listOf ws.toArray k) ∈ led) (Pb : PairsIn led ws l) (ok : ∀ p ∈ l, PyData.strOk p.2 = true) (hu : A.units + 64 < cLine) (h : Q (.bool false) s) :
    wpAny (model prog w) A (compareOp .NotEq (.ref a) (.ref b)) Q E s := by
  refine kqd_ne N ma rfl rfl Pa.dat (fun _ h => h) mb rfl rfl Pb.dat (fun _ h => h) (pd_ok ok) (pd_ok ok) hu ?_
  simp only [decide_true, Bool.not_true]
  exact h
theorem Law1.offAll {w : World} {L ra da : Addr} {c1 c2 c3 oR : Obj} {dvs : List Value} {dn : Nat} {i : Ids} {kv : List (Int × Value)} {g : List (Int × List Str)} {dl : List (Int × Str)} {lvs : List Value} {lc : Nat} {Tl : List (Addr × Obj)} (H : Law1 w L ra da c1 c2 oR dvs i kv g dl lvs lc Tl) : ∀ p ∈ namedT L ra da c1 c2 c3 oR dvs dn Tl, p.1 ∉ i.adr := by
  intro p hp hb
  have q := H.adr _ hb
  have w1 := H.lra
  have w2 := H.lda
  simp only [namedT, List.mem_cons] at hp
  rcases hp with h | h | h | h | h | h
  · rw [h] at q; exact absurd q (by dsimp only; omega)
  · rw [h] at q; exact absurd q (by dsimp only; omega)
  · rw [h] at q; exact absurd q (by dsimp only; omega)
  · rw [h] at q; exact absurd q (by dsimp only; omega)
  · rw [h] at q; exact absurd q (by dsimp only; omega)
  · exact H.offA p h _ hb rfl
def forBody13 : List Stmt := match LB[13]! with | .For _ _ b _ _ => b | _ => []

set_option maxHeartbeats 8000000 in
theorem turn13 (hrow : PySem.Challenge.rw_iy0015_01 = PySem.Challenge.rw_iy0015_01) {w : World} {loose : List Str} {mean : ExcName → Option Value} {mg mb : Str → Option Value} {h₀ : Heap} {L fa ra da : Addr} {cd : Value} {m : Str → Option Value} {s : Shared} {Q : Flow → Shared → Prop} {E : Value → Shared → Prop} {c1 c2 c3 oR : Obj} {dvs : List Value} {dn : Nat} {Tl : List (Addr × Obj)} {kv : List (Int × Value)} {g : List (Int × List Str)} {dl : List (Int × Str)} {i : Ids} {t ts : Tok} {o1 o2 o3 : Obj} {lvs : List Value} {lc : Nat} {S S' : HS Str} {k' : Nat} {D : Addr} {tvs : List Value} {tc : Nat}
    (X : (hd.heap_39 w.params).In h₀) (T : Top hd.view_39 loose mean mg mb h₀) (B : Below callerA h₀ [] h₀)
    (F : Fr h₀ L s.heap (fun z => if z = "other" then some (.ref i.self) else if z = "size" then some (.int k' ts) else if z = "told" then some (.ref D) else m z)) (N : News h₀ L s.heap (led i S.rd t o1 o2 o3 ++ namedT L ra da c1 c2 c3 oR dvs dn Tl)) (H3 : Holds3 w o1 o2 o3 S) (ky : Keyed g S) (H : Law1 w L ra da c1 c2 oR dvs i kv g dl lvs lc Tl) (k3 : ∃ v, c3.data = .cell v)
    (hres : hkRun g S.rd = some (S', k')) (hres2 : hkRun g S'.rd = some (S', k')) (hD : (D, W.listOf tvs.toArray tc) ∈ Tl) (P : PairsIn Tl tvs (srt S'.pl)) (hin : ∀ p ∈ S'.pl, p ∈ dl)
    (done : ∀ h' tk m' t' o1' o2' o3' c3', Fr h₀ L h' m' → (∀ z : Str, z ≠ "again" → m' z = (if z = "other" then some (.ref i.self) else if z = "size" then some (.int k' ts) else if z = "told" then some (.ref D) else m z)) → News h₀ L h' (led i S'.rd t' o1' o2' o3' ++ namedT L ra da c1 c2 c3' oR dvs dn Tl) → Holds3 w o1' o2' o3' S' → Keyed g S' → c3'.data = .cell (some (.ref i.pl)) → Q .next { s with heap := h', toks := tk }) :
    wpAny (model PySem.Challenge.rw_iy0015_01.row.prog w) (lawA L fa cd) (execs forBody13 (lawE L fa cd)) Q E s := by
  unfold lawA lawE at *
  obtain ⟨sc, hsc⟩ : ∃ sc, sc = lawScope := ⟨_, rfl⟩
  rw [← hsc]
  conv at hsc => rhs; whnf
  subst hsc
  conv in forBody13 => whnf
  revert X hrow
  w_top off
  k_fill
  intro hrow X
  have N0 := N
  obtain ⟨v3, k3⟩ := k3
  have offN := H.offN
  have u1 := H.adr i.self (by simp)
  have u2 := H.adr i.D (by simp)
  have u3 := H.adr i.pl (by simp)
  have u4 := H.adr i.pr (by simp)
  have u5 := H.adr i.dl (by simp)
  have u6 := H.lra
  have u7 := H.lda
  have k1 := H.k1
  have k2 := H.k2
  simp only [led, List.cons_append, List.nil_append] at N
  k_steps
  unfold Held
  have ha : ∀ p ∈ namedT L ra da c1 c2 c3 oR dvs dn Tl, p.1 ∉ i.adr := by
    intro p hp hb
    have q := H.adr _ hb
    have w1 := H.lra
    have w2 := H.lda
    simp only [namedT, List.mem_cons] at hp
    rcases hp with h | h | h | h | h | h
    · rw [h] at q; exact absurd q (by dsimp only; omega)
    · rw [h] at q; exact absurd q (by dsimp only; omega)
    · rw [h] at q; exact absurd q (by dsimp only; omega)
    · rw [h] at q; exact absurd q (by dsimp only; omega)
    · rw [h] at q; exact absurd q (by dsimp only; omega)
    · exact H.offA p h _ hb rfl
  have G : GrAt w s.heap i g := H.grAt N0 (List.mem_append_right _ (List.Mem.tail _ (List.Mem.tail _ (List.Mem.tail _ (List.Mem.head _))))) fun p hp => List.mem_append_right _ (List.Mem.tail _ (List.Mem.tail _ (List.Mem.tail _ (List.Mem.tail _ (List.Mem.tail _ hp)))))
  refine methT_use (ext := namedT L ra da c1 c2 c3 oR dvs dn Tl) F N0 rfl ha (fun F N => getnum_ok hrow B F X T rfl rfl rfl rfl (by k_room) N H3 ky H.ap G hres) ?_
  intro a tk0 t' o1' o2' o3' h2 tk2 H3' ky' F2 N2 hne
  simp only [led, namedT, List.cons_append, List.nil_append] at N2
  have na : @Ne Nat (L + 1 + 1 + 1) a := hne (L + 1 + 1 + 1, c3) (by simp [led, namedT])
  have D1 := H3'.1
  have mpl := H.ap.mpl
  k_steps
  · exfalso; omega
  rename_i v hv Fv Nv lv
  unfold Held
  have hpz : S'.pl.length < 64 := ky'.pl_33 H3' H.IA
  refine sorted_items (l := S'.pl) rfl Fv Nv (List.Mem.head _) (by k_mem) D1 hpz ?_
  intro D2 tups vs2 cc h6 tk6 P2 hD2 hT2 F6 N6
  k_steps
  unfold Held
  have okl : ∀ p ∈ srt S'.pl, PyData.strOk p.2 = true := fun p hp => H.IA.ok p (hin p ((srt_perm _).mem_iff.mp hp))
  refine pairs_same (l := srt S'.pl) N6 (List.Mem.head _) (P2.mono fun p hp => List.Mem.tail _ (List.mem_append_left _ hp)) (b := D) (ws := tvs) (k := tc) ?mb (P.mono ?up) okl (by ke_room) ?_
  case mb => exact List.Mem.tail _ (List.mem_append_right _ (by simp only [List.mem_cons]; simp [hD]))
  case up =>
    intro p hp
    exact List.Mem.tail _ (List.mem_append_right _ (by simp only [List.mem_cons]; simp [hp]))
  rename_i h3 h4 h5 c3' F3 N3 d3 ek3
  have N7 : News h₀ L h6 (led i S'.rd t' o1' o2' o3' ++ namedT L ra da c1 c2 c3' oR dvs dn Tl) := fun p hp => N6 p (by
    simp only [led, namedT, List.cons_append, List.nil_append] at hp
    exact List.Mem.tail _ (List.mem_append_right _ (List.Mem.tail _ (List.Mem.tail _ hp))))
  have N8 := N7
  simp only [led, namedT, List.cons_append, List.nil_append] at N8
  clear N6 Nv Fv N3 F3
  k_steps
  unfold Held
  have G2 : GrAt w h6 i g := H.grAt N7 (List.mem_append_right _ (List.Mem.tail _ (List.Mem.tail _ (List.Mem.tail _ (List.Mem.head _))))) fun p hp => List.mem_append_right _ (List.Mem.tail _ (List.Mem.tail _ (List.Mem.tail _ (List.Mem.tail _ (List.Mem.tail _ hp)))))
  refine meth_use (ext := namedT L ra da c1 c2 c3' oR dvs dn Tl) F6 N7 rfl H.offAll (fun F N => get_ok hrow B F X T rfl rfl rfl rfl (by k_room) N H3' ky' H.ap G2 hres2) ?_
  rintro vv S2 t2 p1 p2 p3 h8 tk8 ⟨rfl, rfl⟩ H32 ky2 F8 N8'
  clear N8
  have N9 := N8'
  simp only [led, namedT, List.cons_append, List.nil_append] at N9
  have D2' := H32.1
  k_steps
  rename_i v9 hv9 Fv9 Nv9 lv9
  unfold Held
  refine sorted_items (l := S2.pl) rfl Fv9 Nv9 (List.Mem.head _) (by k_mem) D2' hpz ?_
  intro D3 tups3 vs3 cc3 h10 tk10 P3 hD3 hT3 F10 N10
  k_steps
  unfold Held
  refine pairs_same (l := srt S2.pl) N10 (List.Mem.head _) (P3.mono fun p hp => List.Mem.tail _ (List.mem_append_left _ hp)) (b := D) (ws := tvs) (k := tc) ?mb2 (P.mono ?up2) okl (by ke_room) ?_
  case mb2 => exact List.Mem.tail _ (List.mem_append_right _ (by simp only [List.mem_cons]; simp [hD]))
  case up2 =>
    intro p hp
    exact List.Mem.tail _ (List.mem_append_right _ (by simp only [List.mem_cons]; simp [hp]))
  k_steps
  refine done h10 _ _ t2 p1 p2 p3 c3' F10 (fun z hz => by
    show (if z = _ then _ else _) = _
    rw [if_neg hz]) (fun p hp => N10 p ?_) H32 ky2 d3
  simp only [led, namedT, List.cons_append, List.nil_append] at hp
  exact List.Mem.tail _ (List.mem_append_right _ (List.Mem.tail _ hp))
end HKP
end SHKLawZ

section SHKLawZ1
set_option maxRecDepth 100000
namespace HKP
open PySem PySem.W PyProof.Rows PySem.Spec PySem.Calls PyProof.Rows.LCg

theorem Law1.side {w : World} {L ra da : Addr} {c1 c2 oR : Obj} {dvs : List Value} {i j : Ids} {kv : List (Int × Value)} {g : List (Int × List Str)} {dl : List (Int × Str)} {lvs : List Value} {lc : Nat} {T own : List (Addr × Obj)} {rd : Int} {t : Tok} {o1 o2 o3 : Obj}
    (H : Law1 w L ra da c1 c2 oR dvs i kv g dl lvs lc T) (hj : ∀ b ∈ j.adr, @LT.lt Nat _ da b) (ij : ∀ a ∈ i.adr, ∀ b ∈ j.adr, @Ne Nat a b) (o1' : OwnOff own [L + 1, L + 1 + 1, L + 1 + 1 + 1, ra, da]) (o2' : OwnOff own i.adr) :
    Law1 w L ra da c1 c2 oR dvs i kv g dl lvs lc (led j rd t o1 o2 o3 ++ (T ++ own)) := by
  refine H.mono (fun p hp => List.mem_append_right _ (List.mem_append_left _ hp)) (fun p hp b hb => ?_) fun p hp b hb => ?_
  · rcases List.mem_append.mp hp with h | h
    · have hp' : p.1 ∈ j.adr := List.mem_map.mpr ⟨p, h, rfl⟩
      have q := hj _ hp'
      have w1 := H.lra
      have w2 := H.lda
      simp only [List.mem_cons, List.not_mem_nil, or_false] at hb
      refine @Ne.symm Nat _ _ (Nat.ne_of_lt ?_)
      rcases hb with h | h | h | h | h <;> (rw [h]; omega)
    · rcases List.mem_append.mp h with h | h
      · exact H.offN p h b hb
      · exact o1' p h b hb
  · rcases List.mem_append.mp hp with h | h
    · have hp' : p.1 ∈ j.adr := List.mem_map.mpr ⟨p, h, rfl⟩
      exact Ne.symm (ij _ hb _ hp')
    · rcases List.mem_append.mp h with h | h
      · exact H.offA p h b hb
      · exact o2' p h b hb

theorem named_sub {L ra da : Addr} {c1 c2 c3 oR : Obj} {dvs : List Value} {dn : Nat} {T T' : List (Addr × Obj)} (h : ∀ q ∈ T, q ∈ T') : ∀ p ∈ namedT L ra da c1 c2 c3 oR dvs dn T, p ∈ namedT L ra da c1 c2 c3 oR dvs dn T' := by
  intro p hp
  simp only [namedT, List.mem_cons] at hp ⊢
  rcases hp with h' | h' | h' | h' | h' | h'
  · exact .inl h'
  · exact .inr (.inl h')
  · exact .inr (.inr (.inl h'))
  · exact .inr (.inr (.inr (.inl h')))
  · exact .inr (.inr (.inr (.inr (.inl h'))))
  · exact .inr (.inr (.inr (.inr (.inr (h _ h')))))
theorem named_tail {L ra da : Addr} {c1 c2 c3 oR : Obj} {dvs : List Value} {dn : Nat} {T : List (Addr × Obj)} : ∀ p ∈ T, p ∈ namedT L ra da c1 c2 c3 oR dvs dn T := fun p hp => List.Mem.tail _ (List.Mem.tail _ (List.Mem.tail _ (List.Mem.tail _ (List.Mem.tail _ hp))))
theorem named_split {L ra da : Addr} {c1 c2 c3 oR : Obj} {dvs : List Value} {dn : Nat} {T : List (Addr × Obj)} : ∀ p ∈ namedT L ra da c1 c2 c3 oR dvs dn T, p ∈ T ∨ ∀ T', p ∈ namedT L ra da c1 c2 c3 oR dvs dn T' := by
  intro p hp
  simp only [namedT, List.mem_cons] at hp
  rcases hp with h' | h' | h' | h' | h' | h'
  · exact .inr fun T' => by rw [h']; exact List.Mem.head _
  · exact .inr fun T' => by rw [h']; exact List.Mem.tail _ (List.Mem.head _)
  · exact .inr fun T' => by rw [h']; exact List.Mem.tail _ (List.Mem.tail _ (List.Mem.head _))
  · exact .inr fun T' => by rw [h']; exact List.Mem.tail _ (List.Mem.tail _ (List.Mem.tail _ (List.Mem.head _)))
  · exact .inr fun T' => by rw [h']; exact List.Mem.tail _ (List.Mem.tail _ (List.Mem.tail _ (List.Mem.tail _ (List.Mem.head _))))
  · exact .inl h'

set_option maxHeartbeats 8000000 in
theorem half13 (hrow : PySem.Challenge.rw_iy0015_01 = PySem.Challenge.rw_iy0015_01) {w : World} {loose : List Str} {mean : ExcName → Option Value} {mg mb : Str → Option Value} {h₀ : Heap} {L fa ra da : Addr} {cd : Value} {m₁ : Str → Option Value} {s : Shared} {Q : Flow → Shared → Prop} {E : Value → Shared → Prop} {c1 c2 c3 oR : Obj} {dvs : List Value} {dn : Nat} {T13 own : List (Addr × Obj)} {kv : List (Int × Value)} {g : List (Int × List Str)} {dl : List (Int × Str)} {i j : Ids} {t tj ts : Tok} {o1 o2 o3 q1 q2 q3 : Obj} {lvs : List Value} {lc : Nat} {S S' Sj : HS Str} {k' : Nat} {D : Addr} {tvs : List Value} {tc : Nat}
    (X : (hd.heap_39 w.params).In h₀) (T : Top hd.view_39 loose mean mg mb h₀) (B : Below callerA h₀ [] h₀)
    (F : Fr h₀ L s.heap (fun z => if z = "other" then some (.ref i.self) else m₁ z)) (hsz : m₁ "size" = some (.int k' ts)) (htd : m₁ "told" = some (.ref D))
    (N : News h₀ L s.heap (led i S.rd t o1 o2 o3 ++ (led j Sj.rd tj q1 q2 q3 ++ (namedT L ra da c1 c2 c3 oR dvs dn T13 ++ own)))) (H3 : Holds3 w o1 o2 o3 S) (ky : Keyed g S) (H : Law1 w L ra da c1 c2 oR dvs i kv g dl lvs lc T13) (k3 : ∃ v, c3.data = .cell v)
    (hj : ∀ b ∈ j.adr, @LT.lt Nat _ da b) (ij : ∀ a ∈ i.adr, ∀ b ∈ j.adr, @Ne Nat a b) (o1' : OwnOff own [L + 1, L + 1 + 1, L + 1 + 1 + 1, ra, da]) (o2' : OwnOff own i.adr)
    (hrd : S.rd = -1) (hrd' : S'.rd = -1) (hres : hkRun g (-1) = some (S', k')) (hD : (D, W.listOf tvs.toArray tc) ∈ T13) (P : PairsIn T13 tvs (srt S'.pl)) (hin : ∀ p ∈ S'.pl, p ∈ dl)
    (done : ∀ h' tk m' t' o1' o2' o3' c3', Fr h₀ L h' m' → (∀ z : Str, z ≠ "again" → z ≠ "other" → m' z = m₁ z) → News h₀ L h' (led i S'.rd t' o1' o2' o3' ++ (led j Sj.rd tj q1 q2 q3 ++ (namedT L ra da c1 c2 c3' oR dvs dn T13 ++ own))) → Holds3 w o1' o2' o3' S' → Keyed g S' → (∃ v, c3'.data = .cell v) → Q .next { s with heap := h', toks := tk }) :
    wpAny (model PySem.Challenge.rw_iy0015_01.row.prog w) (lawA L fa cd) (execs forBody13 (lawE L fa cd)) Q E s := by
  have e : (fun z : Str => if z = "other" then some (Value.ref i.self) else m₁ z) = fun z : Str => if z = "other" then some (Value.ref i.self) else if z = "size" then some (.int k' ts) else if z = "told" then some (.ref D) else m₁ z := by
    funext z
    by_cases c0 : z = "other"
    · rw [if_pos c0, if_pos c0]
    rw [if_neg c0, if_neg c0]
    by_cases c1 : z = "size"
    · rw [if_pos c1, c1, hsz]
    rw [if_neg c1]
    by_cases c2 : z = "told"
    · rw [if_pos c2, c2, htd]
    rw [if_neg c2]
  have Tl : ∀ p ∈ T13, p ∈ led j Sj.rd tj q1 q2 q3 ++ (T13 ++ own) := fun p hp => List.mem_append_right _ (List.mem_append_left _ hp)
  refine turn13 (Tl := led j Sj.rd tj q1 q2 q3 ++ (T13 ++ own)) (t := t) (dn := dn) hrow X T B (e ▸ F) (fun p hp => N p ?_) H3 ky (H.side hj ij o1' o2') k3 (by rw [hrd]; exact hres) (by rw [hrd']; exact hres) (Tl _ hD) (P.mono Tl) hin ?_
  · rcases List.mem_append.mp hp with h | h
    · exact List.mem_append_left _ h
    refine List.mem_append_right _ ?_
    rcases named_split _ h with h | h
    · rcases List.mem_append.mp h with h | h
      · exact List.mem_append_left _ h
      rcases List.mem_append.mp h with h | h
      · exact List.mem_append_right _ (List.mem_append_left _ (named_tail _ h))
      · exact List.mem_append_right _ (List.mem_append_right _ h)
    · exact List.mem_append_right _ (List.mem_append_left _ (h _))
  · intro h' tk m' t' p1 p2 p3 c3' F' hm' N' H3' ky' k3'
    refine done h' tk m' t' p1 p2 p3 c3' F' (fun z z1 z2 => ?_) (fun p hp => N' p ?_) H3' ky' ⟨_, k3'⟩
    · rw [hm' z z1, ← congrFun e z, if_neg z2]
    · rcases List.mem_append.mp hp with h | h
      · exact List.mem_append_left _ h
      refine List.mem_append_right _ ?_
      rcases List.mem_append.mp h with h | h
      · exact named_tail _ (List.mem_append_left _ h)
      rcases List.mem_append.mp h with h | h
      · exact named_sub (fun q hq => List.mem_append_right _ (List.mem_append_left _ hq)) _ h
      · exact named_tail _ (List.mem_append_right _ (List.mem_append_right _ h))
end HKP
end SHKLawZ1

section SHKLawZ2
set_option maxRecDepth 100000
namespace HKP
open PySem PySem.W PyProof.Rows PySem.Spec PySem.Calls PyProof.Rows.LCg
local macro_rules | `(tactic| walk_at "call ref") => `(tactic| (k_here; refine held_of ?_))
local macro_rules | `(tactic| walk_at "pyIter ref") => `(tactic| (k_here; refine held_of ?_))

theorem Law1.swap {w : World} {L ra da : Addr} {c1 c2 oR : Obj} {dvs : List Value} {i j : Ids} {kv : List (Int × Value)} {g : List (Int × List Str)} {dl : List (Int × Str)} {lvs lvs2 : List Value} {lc lc2 : Nat} {T : List (Addr × Obj)} (H : Law1 w L ra da c1 c2 oR dvs i kv g dl lvs lc T)
    (hgr : j.gr = ra) (hlf : (j.lf, W.listOf lvs2.toArray lc2) ∈ T) (hI : IntsAre lvs2 (kv.map (·.1))) (ap : Apart j) (hT : OwnOff T j.adr) (hj : ∀ b ∈ j.adr, @LT.lt Nat _ da b) : Law1 w L ra da c1 c2 oR dvs j kv g dl lvs2 lc2 T :=
  { H with gr := hgr, lf := hlf, hI := H.LR.keys ▸ hI, ap := ap, offA := hT, adr := hj }
theorem two_at {α : Type} {a b v : α} {n : Nat} (h : ([a, b] : List α)[n]? = some v) : v = a ∨ v = b := by
  match n, h with
  | 0, h => exact .inl (by simpa using h.symm)
  | 1, h => exact .inr (by simpa using h.symm)
  | n + 2, h => simp at h
theorem keyed_nil {g : List (Int × List Str)} : Keyed g ⟨[], [], [], -1⟩ := ⟨fun x h => (List.not_mem_nil h).elim, fun x h => (List.not_mem_nil h).elim, fun x h => (List.not_mem_nil h).elim⟩
def J13 (w : World) (L ra da : Addr) (c1 c2 oR : Obj) (dvs : List Value) (dn : Nat) (g : List (Int × List Str)) (i j : Ids) (T13 : List (Addr × Obj)) (m₀ : Str → Option Value) (_n : Nat) (m' : Str → Option Value) (nx : List (Addr × Obj)) : Prop :=
  ∃ Si ti p1 p2 p3 Sj tj q1 q2 q3 c3, nx = led i Si.rd ti p1 p2 p3 ++ (led j Sj.rd tj q1 q2 q3 ++ namedT L ra da c1 c2 c3 oR dvs dn T13) ∧ Holds3 w p1 p2 p3 Si ∧ Keyed g Si ∧ Holds3 w q1 q2 q3 Sj ∧ Keyed g Sj ∧ Si.rd = -1 ∧ Sj.rd = -1 ∧ (∃ v, c3.data = .cell v) ∧ ∀ z : Str, z ≠ "again" → z ≠ "other" → m' z = m₀ z

set_option maxHeartbeats 8000000 in
theorem seg13 (hrow : PySem.Challenge.rw_iy0015_01 = PySem.Challenge.rw_iy0015_01) {w : World} {loose : List Str} {mean : ExcName → Option Value} {mg mb : Str → Option Value} {h₀ : Heap} {L fa ra da : Addr} {cd : Value} {m : Str → Option Value} {s : Shared} {Q : Flow → Shared → Prop} {E : Value → Shared → Prop} {c1 c2 c3 oR : Obj} {dvs : List Value} {dn : Nat} {Tl : List (Addr × Obj)} {kv : List (Int × Value)} {g : List (Int × List Str)} {dl : List (Int × Str)} {i : Ids} {t ts : Tok} {o1 o2 o3 : Obj} {lvs : List Value} {lc : Nat} {S S' : HS Str} {k' : Nat} {D : Addr} {tvs : List Value} {tc : Nat}
    (X : (hd.heap_39 w.params).In h₀) (T : Top hd.view_39 loose mean mg mb h₀) (B : Below callerA h₀ [] h₀) (hE : PassesOwn (model PySem.Challenge.rw_iy0015_01.row.prog w) (lawA L fa cd) (lawE L fa cd) E)
    (F : Fr h₀ L s.heap (fun z => if z = "finder" then some (.ref i.self) else if z = "size" then some (.int k' ts) else if z = "told" then some (.ref D) else m z)) (N : News h₀ L s.heap (led i S.rd t o1 o2 o3 ++ namedT L ra da c1 c2 c3 oR dvs dn Tl)) (H3 : Holds3 w o1 o2 o3 S) (ky : Keyed g S) (H : Law1 w L ra da c1 c2 oR dvs i kv g dl lvs lc Tl) (k3 : ∃ v, c3.data = .cell v)
    (hrd : S.rd = -1) (hrd' : S'.rd = -1) (hres : hkRun g (-1) = some (S', k')) (hD : (D, W.listOf tvs.toArray tc) ∈ Tl) (P : PairsIn Tl tvs (srt S'.pl)) (hin : ∀ p ∈ S'.pl, p ∈ dl)
    (done : ∀ h' tk m' c3' , Fr h₀ L h' m' → (∀ z : Str, z ≠ "again" → z ≠ "other" → m' z = (if z = "finder" then some (.ref i.self) else if z = "size" then some (.int k' ts) else if z = "told" then some (.ref D) else m z)) → News h₀ L h' (namedT L ra da c1 c2 c3' oR dvs dn Tl) → Q .next { s with heap := h', toks := tk }) :
    wpAny (model PySem.Challenge.rw_iy0015_01.row.prog w) (lawA L fa cd) (exec (LB[13]!) (lawE L fa cd)) Q E s := by
  unfold lawA lawE at *
  obtain ⟨sc, hsc⟩ : ∃ sc, sc = lawScope := ⟨_, rfl⟩
  rw [← hsc] at hE ⊢
  conv at hsc => rhs; whnf
  subst hsc
  conv in (LB[13]!) => whnf
  revert X hrow
  w_top off
  k_fill
  intro hrow X
  have N0 := N
  have k1 := H.k1
  simp only [led, List.cons_append, List.nil_append] at N
  (with_unfolding_all refine' For_invVF F ?k1 ?k2 ?_ (hE := hE); (case k1 => exact rfl); (case k2 => exact rfl))
  k_steps
  unfold Held
  refine newfin hrow X T B F (N := ?N) (R0 := (i.self, instObj 73 i.D) :: (i.D, dObj i S.rd t) :: (i.pl, o1) :: (i.pr, o2) :: (i.dl, o3) :: (L + 1, c1) :: (L + 1 + 1, c2) :: (L + 1 + 1 + 1, c3) :: (da, W.listOf dvs.toArray dn) :: Tl) H.lo H.LD (by rw [H.LR.length]; have := H.IA.len; omega) ?done1
  case N =>
    intro p hp
    refine N p ?_
    simp only [List.mem_cons] at hp ⊢
    rcases hp with h | h | h | h | h | h | h | h | h | h | h <;> (repeat (first | with_reducible exact Or.inl h | with_reducible exact h | refine Or.inr ?_))
  case done1 =>
    intro h2 tk2 j tj q1 q2 q3 lvs2 lc2 hgr F2 N2 H32 hI2 ap2 hlt2 hlf2
    simp only [led, List.cons_append, List.nil_append] at N2
    k_steps
    rename_i l h3 F3 N3 lt
    unfold Held
    have old : ∀ p ∈ led i S.rd t o1 o2 o3 ++ namedT L ra da c1 c2 c3 oR dvs dn Tl, ∀ b ∈ j.lf :: j.adr, @LT.lt Nat _ p.1 b := by
      intro p hp b hb
      refine hlt2 p ?_ b hb
      simp only [led, namedT, List.cons_append, List.nil_append, List.mem_cons] at hp ⊢
      rcases hp with h | h | h | h | h | h | h | h | h | h | h <;> (repeat (first | with_reducible exact Or.inl h | with_reducible exact h | refine Or.inr ?_))
    obtain ⟨v1, v2, v3, v4, v5, v6, v7, v8, v9, v10, v11, v12, v13, v14, v15, v16, v17⟩ := lt
    have lTl : ∀ p ∈ Tl, @LT.lt Nat _ p.1 l := fun p hp => ktn_ltOf v17 p hp
    have oldi : ∀ a ∈ i.adr, ∀ b ∈ j.lf :: j.adr, @LT.lt Nat _ a b := fun a ha b hb => by
      obtain ⟨o, ho⟩ := core_has (L := L) (ra := ra) (da := da) (c1 := c1) (c2 := c2) (c3 := c3) (oR := oR) (dvs := dvs) (dn := dn) (Tl := Tl) (i := i) (rd := S.rd) (t := t) (o1 := o1) (o2 := o2) (o3 := o3) (.inr ha)
      exact old _ ho b hb
    have oldn : ∀ a ∈ [L + 1, L + 1 + 1, L + 1 + 1 + 1, ra, da], ∀ b ∈ j.lf :: j.adr, @LT.lt Nat _ a b := fun a ha b hb => by
      obtain ⟨o, ho⟩ := core_has (L := L) (ra := ra) (da := da) (c1 := c1) (c2 := c2) (c3 := c3) (oR := oR) (dvs := dvs) (dn := dn) (Tl := Tl) (i := i) (rd := S.rd) (t := t) (o1 := o1) (o2 := o2) (o3 := o3) (.inl ha)
      exact old _ ho b hb
    have oldT : ∀ p ∈ Tl, ∀ b ∈ j.lf :: j.adr, @LT.lt Nat _ p.1 b := fun p hp b hb => old p (List.mem_append_right _ (named_tail _ hp)) b hb
    have hja : ∀ b ∈ j.adr, @LT.lt Nat _ da b := fun b hb => oldn da (by simp) b (List.mem_cons_of_mem _ hb)
    have jl : ∀ b ∈ j.adr, @LT.lt Nat _ b l := fun b hb => by
      simp only [Ids.adr, List.mem_cons, List.not_mem_nil, or_false] at hb
      rcases hb with h | h | h | h | h <;> (rw [h]; assumption)
    have il : ∀ b ∈ i.adr, @LT.lt Nat _ b l := fun b hb => by
      simp only [Ids.adr, List.mem_cons, List.not_mem_nil, or_false] at hb
      rcases hb with h | h | h | h | h <;> (rw [h]; assumption)
    have nl : ∀ b ∈ [L + 1, L + 1 + 1, L + 1 + 1 + 1, ra, da], @LT.lt Nat _ b l := fun b hb => by
      simp only [List.mem_cons, List.not_mem_nil, or_false] at hb
      rcases hb with h | h | h | h | h <;> (rw [h]; assumption)
    obtain ⟨T13, hT13⟩ : ∃ T13, T13 = (l, W.listOf ([Value.ref i.self, Value.ref j.self] : List Value).toArray 0) :: (j.lf, W.listOf lvs2.toArray lc2) :: Tl := ⟨_, rfl⟩
    have sub13 : ∀ p ∈ Tl, p ∈ T13 := fun p hp => hT13 ▸ List.mem_cons_of_mem _ (List.mem_cons_of_mem _ hp)
    have Hi : Law1 w L ra da c1 c2 oR dvs i kv g dl lvs lc T13 := by
      refine H.mono sub13 (fun p hp b hb => ?_) fun p hp b hb => ?_
      · rw [hT13] at hp
        rcases List.mem_cons.mp hp with h | hp
        · rw [h]; exact Nat.ne_of_gt (nl b hb)
        rcases List.mem_cons.mp hp with h | hp
        · rw [h]; exact Nat.ne_of_gt (oldn b hb _ (List.mem_cons_self))
        exact H.offN p hp b hb
      · rw [hT13] at hp
        rcases List.mem_cons.mp hp with h | hp
        · rw [h]; exact Nat.ne_of_gt (il b hb)
        rcases List.mem_cons.mp hp with h | hp
        · rw [h]; exact Nat.ne_of_gt (oldi b hb _ (List.mem_cons_self))
        exact H.offA p hp b hb
    have Hj : Law1 w L ra da c1 c2 oR dvs j kv g dl lvs2 lc2 T13 := by
      refine Hi.swap hgr (hT13 ▸ List.mem_cons_of_mem _ List.mem_cons_self) hI2 ap2 (fun p hp b hb => ?_) hja
      rw [hT13] at hp
      rcases List.mem_cons.mp hp with h | hp
      · rw [h]; exact Nat.ne_of_gt (jl b hb)
      rcases List.mem_cons.mp hp with h | hp
      · rw [h]; exact fun e => hlf2 (by have e' : j.lf = b := e; rw [e']; exact hb)
      exact Nat.ne_of_lt (oldT p hp b (List.mem_cons_of_mem _ hb))
    have ij : ∀ a ∈ i.adr, ∀ b ∈ j.adr, @Ne Nat a b := fun a ha b hb => Nat.ne_of_lt (oldi a ha b (List.mem_cons_of_mem _ hb))
    have hl13 : (l, W.listOf ([Value.ref i.self, Value.ref j.self] : List Value).toArray 0) ∈ T13 := hT13 ▸ List.mem_cons_self
    have N4 : News h₀ L h3 (led i S.rd t o1 o2 o3 ++ (led j (-1) tj q1 q2 q3 ++ namedT L ra da c1 c2 c3 oR dvs dn T13)) := fun p hp => N3 p (by
      rw [hT13] at hp
      simp only [led, namedT, List.cons_append, List.nil_append, List.mem_cons] at hp ⊢
      rcases hp with h | h | h | h | h | h | h | h | h | h | h | h | h | h | h | h | h | h <;> (repeat (first | with_reducible exact Or.inl h | with_reducible exact h | refine Or.inr ?_)))
    obtain ⟨m₀, hm₀⟩ : ∃ m₀ : Str → Option Value, m₀ = fun z : Str => if z = "finder" then some (Value.ref i.self) else if z = "size" then some (.int k' ts) else if z = "told" then some (.ref D) else m z := ⟨_, rfl⟩
    rw [← hm₀] at F3
    have hsz : m₀ "size" = some (.int k' ts) := by rw [hm₀]; rfl
    have htd : m₀ "told" = some (.ref D) := by rw [hm₀]; rfl
    refine kdl_iter (vs := [.ref i.self, .ref j.self]) (nn := 0) (news := led i S.rd t o1 o2 o3 ++ (led j (-1) tj q1 q2 q3 ++ namedT L ra da c1 c2 c3 oR dvs dn T13)) (J13 w L ra da c1 c2 oR dvs dn g i j T13 m₀) rfl (List.mem_append_right _ (List.mem_append_right _ (named_tail _ hl13))) F3 N4 ⟨S, t, o1, o2, o3, ⟨[], [], [], -1⟩, tj, q1, q2, q3, c3, rfl, H3, ky, H32, keyed_nil, hrd, rfl, k3, fun _ _ _ => rfl⟩ ?turn ?done2
    case done2 =>
      rintro m₁ nx h tk ⟨Si, ti, p1, p2, p3, Sj, tj', r1, r2, r3, c3', rfl, -, -, -, -, -, -, -, hm⟩ F5 N5
      refine done h tk m₁ c3' F5 (fun z z1 z2 => by rw [hm z z1 z2, hm₀]) fun p hp => N5 p (List.mem_append_right _ (List.mem_append_right _ (named_sub sub13 p hp)))
    case turn =>
      rintro n v m₁ nx h tk own hv hoff - ⟨Si, ti, p1, p2, p3, Sj, tj', r1, r2, r3, c3', rfl, H3i, kyi, H3j, kyj, rdi, rdj, k3', hm⟩ F5 N5
      have hs1 : m₁ "size" = some (.int k' ts) := (hm "size" (by decide) (by decide)).trans hsz
      have ht1 : m₁ "told" = some (.ref D) := (hm "told" (by decide) (by decide)).trans htd
      have adr_eq : ∀ rd ti p1 p2 p3 rd' tj q1 q2 q3 c3, (led i rd ti p1 p2 p3 ++ (led j rd' tj q1 q2 q3 ++ namedT L ra da c1 c2 c3 oR dvs dn T13)).map (·.1) = i.adr ++ (j.adr ++ ([L + 1, L + 1 + 1, L + 1 + 1 + 1, ra, da] ++ T13.map (·.1))) := fun _ _ _ _ _ _ _ _ _ _ _ => rfl
      rw [adr_eq] at hoff
      have off1 : OwnOff own [L + 1, L + 1 + 1, L + 1 + 1 + 1, ra, da] := fun p hp b hb => hoff p hp b (List.mem_append_right _ (List.mem_append_right _ (List.mem_append_left _ hb)))
      have offi : OwnOff own i.adr := fun p hp b hb => hoff p hp b (List.mem_append_left _ hb)
      have offj : OwnOff own j.adr := fun p hp b hb => hoff p hp b (List.mem_append_right _ (List.mem_append_left _ hb))
      have hin0 : ∀ rd ti p1 p2 p3 rd' tj q1 q2 q3 c3, (l, W.listOf ([Value.ref i.self, Value.ref j.self] : List Value).toArray 0) ∈ led i rd ti p1 p2 p3 ++ (led j rd' tj q1 q2 q3 ++ namedT L ra da c1 c2 c3 oR dvs dn T13) := fun _ _ _ _ _ _ _ _ _ _ _ => List.mem_append_right _ (List.mem_append_right _ (named_tail _ hl13))
      rcases two_at hv with rfl | rfl
      · refine half13 (s := { s with heap := h, toks := tk }) (j := j) (c3 := c3') (dn := dn) (t := ti) (own := own) (Sj := Sj) (tj := tj') (q1 := r1) (q2 := r2) (q3 := r3) hrow X T B F5 hs1 ht1 (fun p hp => N5 p ?_) H3i kyi Hi k3' hja ij off1 offi rdi hrd' hres (sub13 _ hD) (P.mono sub13) hin ?_
        · simpa only [List.append_assoc] using hp
        · intro h' tk' m' t' o1' o2' o3' c3'' F' hm' N' H3' ky' k3''
          refine ⟨h', tk', m', _, _, rfl, F', N', fun p hp => ?_, fun p hp => ?_, ?_, hin0 S'.rd t' o1' o2' o3' Sj.rd tj' r1 r2 r3 c3'', S', t', o1', o2', o3', Sj, tj', r1, r2, r3, c3'', rfl, H3', ky', H3j, kyj, hrd', rdj, k3'', fun z z1 z2 => (hm' z z1 z2).trans (hm z z1 z2)⟩
          · rw [← List.append_assoc (led j _ _ _ _ _), ← List.append_assoc (led i _ _ _ _ _)]
            exact List.mem_append_left _ hp
          · exact List.mem_append_right _ (List.mem_append_right _ (List.mem_append_right _ hp))
          · rw [adr_eq]; exact hoff
      · refine half13 (s := { s with heap := h, toks := tk }) (j := i) (c3 := c3') (dn := dn) (t := tj') (own := own) (Sj := Si) (tj := ti) (q1 := p1) (q2 := p2) (q3 := p3) hrow X T B F5 hs1 ht1 (fun p hp => N5 p ?_) H3j kyj Hj k3' H.adr (fun a ha b hb => Ne.symm (ij b hb a ha)) off1 offj rdj hrd' hres (sub13 _ hD) (P.mono sub13) hin ?_
        · rcases List.mem_append.mp hp with q | q
          · exact List.mem_append_left _ (List.mem_append_right _ (List.mem_append_left _ q))
          rcases List.mem_append.mp q with q | q
          · exact List.mem_append_left _ (List.mem_append_left _ q)
          rcases List.mem_append.mp q with q | q
          · exact List.mem_append_left _ (List.mem_append_right _ (List.mem_append_right _ q))
          · exact List.mem_append_right _ q
        · intro h' tk' m' t' o1' o2' o3' c3'' F' hm' N' H3' ky' k3''
          refine ⟨h', tk', m', _, _, rfl, F', N', fun p hp => ?_, fun p hp => ?_, ?_, hin0 Si.rd ti p1 p2 p3 S'.rd t' o1' o2' o3' c3'', Si, ti, p1, p2, p3, S', t', o1', o2', o3', c3'', rfl, H3i, kyi, H3', ky', rdi, hrd', k3'', fun z z1 z2 => (hm' z z1 z2).trans (hm z z1 z2)⟩
          · rcases List.mem_append.mp hp with q | q
            · exact List.mem_append_right _ (List.mem_append_left _ q)
            rcases List.mem_append.mp q with q | q
            · exact List.mem_append_left _ q
            · exact List.mem_append_right _ (List.mem_append_right _ (List.mem_append_left _ q))
          · exact List.mem_append_right _ (List.mem_append_right _ (List.mem_append_right _ hp))
          · rw [adr_eq]; exact hoff
end HKP
end SHKLawZ2

section SHKLawZ3
local macro_rules | `(tactic| walk_at "no such key") => `(tactic| skip)
set_option maxRecDepth 100000
namespace HKP
open PySem PySem.W PyProof.Rows PySem.Spec PySem.Calls PyProof.Rows.LCg

set_option maxHeartbeats 8000000 in
theorem seg10 (hrow : PySem.Challenge.rw_iy0015_01 = PySem.Challenge.rw_iy0015_01) {w : World} {loose : List Str} {mean : ExcName → Option Value} {mg mb : Str → Option Value} {h₀ : Heap} {L fa a0 : Addr} {o0 : Obj} {cd : Value} {m : Str → Option Value} {s : Shared} {Q : Flow → Shared → Prop} {E : Value → Shared → Prop} {news : List (Addr × Obj)}
    (X : (hd.heap_39 w.params).In h₀) (T : Top hd.view_39 loose mean mg mb h₀)
    (F : Fr h₀ L s.heap m) (N : News h₀ L s.heap ((a0, o0) :: news))
    (done : ∀ h' tk Ra, Fr h₀ L h' (fun z => if z = "reached" then some (.ref Ra) else m z) → News h₀ L h' ((Ra, W.listOf #[] 0) :: (a0, o0) :: news) → (∀ q ∈ (a0, o0) :: news, @LT.lt Nat _ q.1 Ra) → Q .next { s with heap := h', toks := tk }) :
    wpAny (model PySem.Challenge.rw_iy0015_01.row.prog w) (lawA L fa cd) (exec (LB[10]!) (lawE L fa cd)) Q E s := by
  unfold lawA lawE at *
  obtain ⟨sc, hsc⟩ : ∃ sc, sc = lawScope := ⟨_, rfl⟩
  rw [← hsc]
  conv at hsc => rhs; whnf
  subst hsc
  conv in (LB[10]!) => whnf
  revert X hrow
  w_top off
  k_fill
  intro hrow X
  k_steps
  rename_i l' h1 l1 h2 F2 N2
  refine done h2 _ l' F2 N2 fun q hq => ?_
  rcases List.mem_cons.mp hq with h | h
  · rw [h]; exact l1.1
  · exact ktn_ltOf l1.2 q h

set_option maxHeartbeats 8000000 in
theorem seg11 (hrow : PySem.Challenge.rw_iy0015_01 = PySem.Challenge.rw_iy0015_01) {w : World} {loose : List Str} {mean : ExcName → Option Value} {mg mb : Str → Option Value} {h₀ : Heap} {L fa : Addr} {cd : Value} {m : Str → Option Value} {s : Shared} {Q : Flow → Shared → Prop} {E : Value → Shared → Prop} {news : List (Addr × Obj)}
    (X : (hd.heap_39 w.params).In h₀) (T : Top hd.view_39 loose mean mg mb h₀)
    (F : Fr h₀ L s.heap m) (N : News h₀ L s.heap news)
    (done : ∀ h' tk tp, Fr h₀ L h' (fun z => if z = "place" then some (.int 0 tp) else m z) → News h₀ L h' news → Q .next { s with heap := h', toks := tk }) :
    wpAny (model PySem.Challenge.rw_iy0015_01.row.prog w) (lawA L fa cd) (exec (LB[11]!) (lawE L fa cd)) Q E s := by
  unfold lawA lawE at *
  obtain ⟨sc, hsc⟩ : ∃ sc, sc = lawScope := ⟨_, rfl⟩
  rw [← hsc]
  conv at hsc => rhs; whnf
  subst hsc
  conv in (LB[11]!) => whnf
  revert X hrow
  w_top off
  k_fill
  intro hrow X
  k_steps
  exact done _ _ _ (by assumption) (by assumption)
end HKP
end SHKLawZ3

section SHKFin
local macro_rules | `(tactic| walk_at "no such key") => `(tactic| skip)
local macro_rules | `(tactic| walk_at "no such key") => `(tactic| skip)
local macro_rules | `(tactic| walk_at "no such key") => `(tactic| skip)
namespace HKP
open PySem
theorem toDict_step {l : List (Int × Str)} : ∀ {acc : List (Str × Int)}, (l.map (·.2)).Nodup → (∀ p ∈ l, aget acc p.2 = none) → (∀ r o, aget (l.foldl (fun a p => aput a p.2 p.1) acc) r = some o ↔ (o, r) ∈ l ∨ aget acc r = some o) ∧ (l.foldl (fun a p => aput a p.2 p.1) acc).length = acc.length + l.length := by
  induction l with
  | nil => intro acc _ _; exact ⟨fun r o => by simp, by simp⟩
  | cons p l ih =>
    intro acc hn ha
    rw [List.map_cons, List.nodup_cons] at hn
    rw [List.foldl_cons]
    have hp : aget acc p.2 = none := ha p List.mem_cons_self
    have hne : ∀ q ∈ l, q.2 ≠ p.2 := fun q hq e => hn.1 (List.mem_map.mpr ⟨q, hq, e⟩)
    obtain ⟨i1, i2⟩ := ih (acc := aput acc p.2 p.1) hn.2 fun q hq => by
      rw [aget_aput, if_neg (hne q hq)]; exact ha q (List.mem_cons_of_mem _ hq)
    refine ⟨fun r o => ?_, ?_⟩
    · rw [i1, aget_aput, List.mem_cons]
      by_cases c : r = p.2
      · rw [if_pos c, c, hp]
        constructor
        · rintro (h | h)
          · exact .inl (.inr h)
          · cases h; exact .inl (.inl rfl)
        · rintro ((h | h) | h)
          · exact .inr (by rw [← h])
          · exact .inl h
          · cases h
      · rw [if_neg c]
        constructor
        · rintro (h | h)
          · exact .inl (.inr h)
          · exact .inr h
        · rintro ((h | h) | h)
          · exact absurd (by rw [← h]) c
          · exact .inl h
          · exact .inr h
    · rw [i2, aput_length, hp, List.length_cons]; simp; omega
theorem toDict_aget {l : List (Int × Str)} (hn : (l.map (·.2)).Nodup) (r : Str) (o : Int) : aget (toDict l) r = some o ↔ (o, r) ∈ l := by
  have := (toDict_step (acc := []) hn fun p _ => rfl).1 r o
  unfold toDict
  rw [this]; simp [aget_nil]
theorem toDict_len {l : List (Int × Str)} (hn : (l.map (·.2)).Nodup) : (toDict l).length = l.length := by
  have := (toDict_step (acc := []) hn fun p _ => rfl).2
  unfold toDict
  rw [this]; simp

def goodL (g : List (Int × List Str)) (S : HS Str) (l : Int) : Prop := (∃ row, aget g l = some row) ∧ 0 ≤ dd S l

section
variable {g : List (Int × List Str)} {dl : List (Int × Str)} {S : HS Str}
theorem Good.rights (G : Good g S) : (S.pl.map (·.2)).Nodup := by
  have hn := G.n
  rw [List.Nodup, List.pairwise_map] at hn ⊢
  refine List.Pairwise.imp_of_mem ?_ hn
  intro p q hp hq hne e
  have h1 := G.b _ _ (aget_of_mem G.n hp)
  have h2 := G.b _ _ (aget_of_mem G.n hq)
  rw [e] at h1
  exact hne (Option.some.inj (h1.symm.trans h2))
theorem told_nodup (G : Good g S) : ((srt S.pl).map (·.2)).Nodup := (((srt_perm S.pl).map (·.2)).nodup_iff).mpr G.rights
theorem told_back (G : Good g S) (r : Str) (o : Int) : aget (toDict (srt S.pl)) r = some o ↔ aget S.pl o = some r := by
  rw [toDict_aget (told_nodup G), (srt_perm S.pl).mem_iff]
  exact ⟨aget_of_mem G.n, aget_mem⟩
theorem told_len (G : Good g S) : (toDict (srt S.pl)).length = S.pl.length := by rw [toDict_len (told_nodup G), srt_length]
theorem told_in (G : Good g S) (IA : InvA g dl 33) : ∀ p ∈ S.pl, p ∈ dl := by
  intro p hp
  obtain ⟨row, h1, h2⟩ := G.e _ _ (aget_of_mem G.n hp)
  exact (IA.mem p.1 p.2).mpr ⟨row, aget_mem h1, h2⟩
theorem good_row : ∀ l, goodL g S l → ∃ row, aget g l = some row := fun _ h => h.1
theorem good_back (B : Best g S) : ∀ l row r, goodL g S l → aget g l = some row → r ∈ row → ∃ o, aget (toDict (srt S.pl)) r = some o ∧ goodL g S o := by
  intro l row r ⟨_, h0⟩ hrow hr
  obtain ⟨o, h1, h2⟩ := B.served l row hrow h0 r hr
  have h3 := B.good.a _ _ h1
  obtain ⟨row', h4, _⟩ := B.good.e _ _ h3
  exact ⟨o, (told_back B.good r o).mpr h3, ⟨row', h4⟩, h2⟩
theorem good_free (B : Best g S) : ∀ l ∈ freeL g S.pl g.length, goodL g S l := by
  intro l hl
  unfold freeL at hl
  rw [List.take_of_length_le (by rw [List.length_map]; exact Nat.le_refl _), List.mem_filter] at hl
  obtain ⟨row, hrow⟩ := key_row.mp hl.1
  exact ⟨⟨row, hrow⟩, B.free l row hrow (by simpa using hl.2)⟩
theorem free_len (IA : InvA g dl 33) : (freeL g S.pl g.length).length ≤ 33 := by
  have h1 : (freeL g S.pl g.length).length ≤ (g.map (·.1)).length := by
    unfold freeL
    exact Nat.le_trans (List.length_filter_le _ _) (by rw [List.length_take]; exact Nat.min_le_right _ _)
  rw [List.length_map] at h1
  exact Nat.le_trans h1 IA.len
end
end HKP
end SHKFin

section SHKLawZ4
set_option maxRecDepth 100000
namespace HKP
open PySem PySem.W PyProof.Rows PySem.Spec PySem.Calls PyProof.Rows.LCg

theorem seq_at {M : Model} {A : Around} {E : Value → Shared → Prop} {s : Shared} {env : Env} {Q : Flow → Shared → Prop} {l : List Stmt} (k : Nat) (hk : k < l.length)
    (h : wpAny M A (exec (l[k]!) env) (fun f s' => match f with | .next => wpAny M A (execs (l.drop (k + 1)) env) Q E s' | f => Q f s') E s) : wpAny M A (execs (l.drop k) env) Q E s := by
  have e : l.drop k = l[k]! :: l.drop (k + 1) := by rw [List.drop_eq_getElem_cons hk, getElem!_pos l k hk]
  rw [e, arm_execs_cons]
  refine wpAny_bind (wpAny_mono h (fun f s' p => ?_) fun _ _ e => e)
  cases f with
  | next => exact p
  | ret v => exact wpAny_pure p
  | brk => exact wpAny_pure p
  | cont => exact wpAny_pure p
theorem LB_len : LB.length = 15 := rfl

theorem LedA.mono {w : World} {L ra da : Addr} {T T2 : List (Addr × Obj)} {oR : Obj} {kv : List (Int × Value)} {dvs : List Value} {g : List (Int × List Str)} {dl : List (Int × Str)} (H : LedA w L ra da T oR kv dvs g dl) (hT : ∀ p ∈ T, p ∈ T2) (off : OwnOff T2 [L + 1, L + 1 + 1, L + 1 + 1 + 1, ra, da]) : LedA w L ra da T2 oR kv dvs g dl :=
  ⟨off, H.dict, H.rows.mono fun d v ⟨a, vs, n, e, hm, hs⟩ => ⟨a, vs, n, e, hT _ hm, hs⟩, H.apart, H.drawn.mono hT⟩

set_option maxHeartbeats 8000000 in
theorem law3 (hrow : PySem.Challenge.rw_iy0015_01 = PySem.Challenge.rw_iy0015_01) {w : World} {loose : List Str} {mean : ExcName → Option Value} {mg mb : Str → Option Value} {h₀ : Heap} {L fa ra da : Addr} {cd : Value} {m : Str → Option Value} {s : Shared} {Q : Flow → Shared → Prop} {E : Value → Shared → Prop} {c1 c2 c3 oR : Obj} {dvs : List Value} {dn : Nat} {Tl : List (Addr × Obj)} {kv : List (Int × Value)} {g : List (Int × List Str)} {dl : List (Int × Str)}
    (X : (hd.heap_39 w.params).In h₀) (T : Top hd.view_39 loose mean mg mb h₀) (B : Below callerA h₀ [] h₀) (hE : PassesOwn (model PySem.Challenge.rw_iy0015_01.row.prog w) (lawA L fa cd) (lawE L fa cd) E)
    (F : Fr h₀ L s.heap m) (N : News h₀ L s.heap (namedT L ra da c1 c2 c3 oR dvs dn Tl)) (k1 : c1.data = .cell (some (.ref ra))) (k2 : c2.data = .cell (some (.ref da))) (k3 : ∃ v, c3.data = .cell v) (lo : (ra == sysModules) = false) (lra : @LT.lt Nat _ (L + 1 + 1 + 1) ra) (lda : @LT.lt Nat _ ra da)
    (LA : LedA w L ra da Tl oR kv dvs g dl) (IA : InvA g dl 33)
    (done : ∀ h' tk m', Fr h₀ L h' m' → Q (.ret (.bool true)) { s with heap := h', toks := tk }) :
    wpAny (model PySem.Challenge.rw_iy0015_01.row.prog w) (lawA L fa cd) (execs (LB.drop 3) (lawE L fa cd)) Q E s := by
  obtain ⟨S, k, hres, Bs, hk⟩ := hk_ok IA.nd (-1)
  refine seq_at 3 (by rw [LB_len]; decide) (segB hrow X T F N k1 k2 lo LA IA ?_)
  intro h1 tk1 D ys T1 F1 N1 hD1 sub1 off1 hys1
  refine seq_at 4 (by rw [LB_len]; decide) (seg4 hrow X T B F1 N1 k1 k2 lo lra lda (LA.mono sub1 off1) IA ?_)
  intro h2 tk2 i t2 o1 o2 o3 lvs lc F2 N2 H3 H2
  refine seq_at 5 (by rw [LB_len]; decide) (seg5 (S := ⟨[], [], [], -1⟩) hrow X T B F2 N2 H3 keyed_nil H2 k3 hres ?_)
  intro h3 tk3 t3 p1 p2 p3 c3' ts F3 N3 H33 ky3 k3'
  refine seq_at 6 (by rw [LB_len]; decide) (seg6 hrow X T B F3 N3 H33 ky3 H2 k3' ?_)
  intro h4 tk4 Dt tvs tc T4 F4 N4 hDt P4 sub4 H4
  have hz : (srt S.pl).length < 64 := by rw [srt_length]; exact ky3.pl_33 H33 IA
  refine seq_at 7 (by rw [LB_len]; decide) (seg7 hrow X T B F4 N4 H4 hDt P4 hz ?_)
  intro h5 tk5 Bk oB T5 F5 N5 loB hB dB sub5 H5
  have hin : ∀ p ∈ srt S.pl, p ∈ dl := fun p hp => told_in Bs.good IA p ((srt_perm _).mem_iff.mp hp)
  refine seq_at 8 (by rw [LB_len]; decide) (seg8 hrow X T B F5 N5 H5 (sub5 _ hDt) (P4.mono sub5) hz loB hB dB (by rw [srt_length]; exact hk) (by rw [told_len Bs.good]; exact hk) hin ?_)
  intro h6 tk6 F6 N6
  refine seq_at 9 (by rw [LB_len]; decide) (seg9 hrow X T B F6 N6 H33 H5 k3' ?_)
  intro h7 tk7 La ls F7 N7 hLa hI7
  refine seq_at 10 (by rw [LB_len]; decide) (seg10 hrow X T F7 N7 ?_)
  intro h8 tk8 Ra F8 N8 hRa
  refine seq_at 11 (by rw [LB_len]; decide) (seg11 hrow X T F8 N8 ?_)
  intro h9 tk9 tp F9 N9
  refine seq_at 12 (by rw [LB_len]; decide) (seg12 (good := goodL g S) hrow X T B hE F9 (fun p hp => N9 p ?_) ?_ hLa ?_ H5 loB hB dB hI7 (free_len IA) good_row (good_back Bs) (good_free Bs) ?_)
  · rcases List.mem_cons.mp hp with h | h
    · rw [h]; exact List.Mem.tail _ (List.Mem.head _)
    rcases List.mem_cons.mp h with h | h
    · rw [h]; exact List.Mem.head _
    · exact List.Mem.tail _ (List.Mem.tail _ h)
  · exact Nat.ne_of_lt (hRa _ (List.Mem.head _))
  · exact fun q hq => Nat.ne_of_lt (hRa q (List.Mem.tail _ hq))
  intro h10 tk10 m10 F10 hm10 N10
  have e1 : m10 "finder" = some (.ref i.self) := hm10 "finder" (by decide) (by decide)
  have e2 : m10 "size" = some (.int k ts) := hm10 "size" (by decide) (by decide)
  have e3 : m10 "told" = some (.ref Dt) := hm10 "told" (by decide) (by decide)
  have e4 : m10 "before" = some (.ref D) := hm10 "before" (by decide) (by decide)
  have e2' := (congrFun (see_eq e3) "size").trans e2
  have e1' := ((congrFun (see_eq e2') "finder").trans (congrFun (see_eq e3) "finder")).trans e1
  have F11 := fr_see (x := "finder") (fr_see (x := "size") (fr_see (x := "told") F10 e3) e2') e1'
  refine seq_at 13 (by rw [LB_len]; decide) (seg13 (S := S) (S' := S) hrow X T B hE F11 N10 H33 ky3 H5 ⟨_, k3'⟩ Bs.rd Bs.rd hres (sub5 _ hDt) (P4.mono sub5) (told_in Bs.good IA) ?_)
  intro h12 tk12 m12 c3'' F12 hm12 N12
  have e5 : m12 "before" = some (.ref D) := by
    rw [hm12 "before" (by decide) (by decide)]
    exact (((congrFun (see_eq e1') "before").trans (congrFun (see_eq e2') "before")).trans (congrFun (see_eq e3) "before")).trans e4
  have F13 := fr_see (x := "before") F12 e5
  have up : ∀ p ∈ T1, p ∈ T5 := fun p hp => sub5 p (sub4 p (List.mem_cons_of_mem _ hp))
  refine seq_at 14 (by rw [LB_len]; decide) (seg14 hrow X T F13 N12 H5 (up _ hD1) (hys1.mono up) ?_)
  intro h14 tk14 m14 F14
  exact done h14 tk14 m14 F14
end HKP
end SHKLawZ4

section SHKLawZ5
local macro_rules | `(tactic| walk_at "no such key") => `(tactic| skip)
set_option maxRecDepth 100000
namespace HKP
open PySem PySem.W PyProof.Rows PySem.Spec PySem.Calls

theorem law2 (hrow : PySem.Challenge.rw_iy0015_01 = PySem.Challenge.rw_iy0015_01) {w : World} {loose : List Str} {mean : ExcName → Option Value} {mg mb : Str → Option Value} {h₀ : Heap} {L fa sl ra da : Addr} {cd : Value} {m : Str → Option Value} {s : Shared} {Q : Flow → Shared → Prop} {E : Value → Shared → Prop} {c1 c2 c3 oR : Obj} {vs : List Value} {ns : List Int} {v3 : Option Value}
    (X : (hd.heap_39 w.params).In h₀) (T : Top hd.view_39 loose mean mg mb h₀) (B : Below callerA h₀ [] h₀) (hE : PassesOwn (model PySem.Challenge.rw_iy0015_01.row.prog w) (lawA L fa cd) (lawE L fa cd) E)
    (F : Fr h₀ L s.heap m) (hm : m "script" = some (.ref sl)) (hsl : h₀.IsList sl vs.toArray) (hI : IntsAre vs ns) (hlen : ns.length ≤ 63)
    (N : News h₀ L s.heap [(da, W.listOf #[] 0), (ra, oR), (L + 1 + 1 + 1, c3), (L + 1 + 1, c2), (L + 1, c1)]) (k1 : c1.data = .cell (some (.ref ra))) (k2 : c2.data = .cell (some (.ref da))) (k3 : c3.data = .cell v3)
    (hoR : oR.IsDictOf (PySem.intKind PySem.Challenge.rw_iy0015_01.row.prog w) []) (lra : @LT.lt Nat _ (L + 1 + 1 + 1) ra) (lda : @LT.lt Nat _ ra da) (lo : (ra == sysModules) = false)
    (done : ∀ h' tk m', Fr h₀ L h' m' → Q (.ret (.bool true)) { s with heap := h', toks := tk }) :
    wpAny (model PySem.Challenge.rw_iy0015_01.row.prog w) (lawA L fa cd) (exec (LB[2]!) (lawE L fa cd)) (fun f s' => match f with | .next => wpAny (model PySem.Challenge.rw_iy0015_01.row.prog w) (lawA L fa cd) (execs (LB.drop 3) (lawE L fa cd)) Q E s' | f => Q f s') E s := by
  refine loopA (c3 := c3) hrow X T hE (fr_see F hm) hsl hI hlen (fun p hp => N p ?_) k1 k2 hoR lra lda lo ?_
  · simp only [List.mem_cons, List.not_mem_nil, or_false] at hp ⊢
    rcases hp with h | h | h | h | h <;> (repeat (first | with_reducible exact Or.inl h | with_reducible exact h | refine Or.inr ?_))
  intro h' tk m' Tl oR' kv dvs dn g dl F' N' LA IA
  exact law3 (s := { s with heap := h', toks := tk }) hrow X T B hE F' N' k1 k2 ⟨_, k3⟩ lo lra lda LA IA done

local macro_rules | `(tactic| walk_at "exec For") => `(tactic| (k_here; refine held_of ?_))
set_option maxHeartbeats 8000000 in
theorem whole : PySem.Challenge.rw_iy0015_01.Holds := hd (by
  k_go0
  (all_goals try k_fold)
  k_steps
  unfold Held
  rename_i lo1 hs1 fs1 hi1 fi1 l1 h2 o2 d2 l' h3 l3 h4 o4 F4 N4 d4
  refine law2 rfl (by assumption) (by assumption) (by assumption) ?hE F4 rfl (by assumption) (by assumption) ?hlen N4 d2 d4 (by assumption) hi1 l1.1 l3.1 lo1 ?done
  case hlen => omega
  case hE => exact PassesOwn.leaving
  case done =>
    intro h9 tk9 m9 F9
    with_reducible show GoodW _ _ _ _ _ _ _
    wrow_close)
end HKP
end SHKLawZ5

open PySem PySem.W PyProof.Rows
theorem PySem.Challenge.cw_iy0015_01_holds : PySem.Challenge.rw_iy0015_01.Holds :=
  HKP.whole
