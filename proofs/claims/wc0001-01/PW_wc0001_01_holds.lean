import PyProof.Rows.All
import Wide.All
import OpenK.AllK
import Wide.FinOn
import PySem.Challenge.RW_wc0001_01
set_option Elab.async false
set_option linter.unusedVariables false
set_option linter.unusedSimpArgs false
/-! ## P0 -/
section
namespace Mine
def Leaf (x : Int) : Prop := x = 97 ∨ x = 98 ∨ x = 255
def Sym (f : Nat) (x : Int) : Prop := Leaf x ∨ (256 ≤ x ∧ x < 256 + (f : Int))
def Strat (rs : List (Int × Int)) : Prop := ∀ (i : Nat) (p : Int × Int), rs[i]? = some p → Sym i p.1 ∧ Sym i p.2
def expand (rs : List (Int × Int)) : Nat → Int → List Int
  | 0, n => [n]
  | f + 1, n => if n < 256 then [n] else match rs[(n - 256).toNat]? with
    | some p => expand rs f p.1 ++ expand rs f p.2
    | none => []
def spellN (x : Int) : List Nat := if x < 128 then [x.toNat] else [92, (x - 128).toNat]
def spellAll (ls : List Int) : List Nat := ls.flatMap spellN
theorem spellAll_append (a b : List Int) : spellAll (a ++ b) = spellAll a ++ spellAll b := by simp [spellAll]
theorem Sym.mono {f g : Nat} {x : Int} (h : Sym f x) (hfg : f ≤ g) : Sym g x := h.elim .inl fun h => .inr ⟨h.1, by omega⟩
theorem Leaf.lt {x : Int} (h : Leaf x) : x < 256 ∧ 0 ≤ x := by rcases h with rfl | rfl | rfl <;> decide
theorem expand_leaf (rs : List (Int × Int)) (f : Nat) {n : Int} (h : n < 256) : expand rs f n = [n] := by
  cases f with
  | zero => rfl
  | succ f => simp [expand, h]
theorem expand_rule (rs : List (Int × Int)) (f : Nat) {n : Int} {p : Int × Int} (h : ¬ n < 256) (hp : rs[(n - 256).toNat]? = some p) : expand rs (f + 1) n = expand rs f p.1 ++ expand rs f p.2 := by
  simp [expand, h, hp]
theorem expand_length (rs : List (Int × Int)) : ∀ (f : Nat) (n : Int), (expand rs f n).length ≤ 2 ^ f
  | 0, _ => by simp [expand]
  | f + 1, n => by
    unfold expand
    split
    · have : 1 ≤ 2 ^ (f + 1) := Nat.one_le_two_pow
      simpa using this
    · split
      · rename_i p _
        have h1 := expand_length rs f p.1
        have h2 := expand_length rs f p.2
        rw [List.length_append, Nat.pow_succ]; omega
      · simp
theorem spellAll_length (ls : List Int) : (spellAll ls).length ≤ 2 * ls.length := by
  induction ls with
  | nil => simp [spellAll]
  | cons x r ih =>
    have : (spellN x).length ≤ 2 := by unfold spellN; split <;> simp
    have e : spellAll (x :: r) = spellN x ++ spellAll r := by simp [spellAll]
    rw [e, List.length_append, List.length_cons]; omega
end Mine
end
/-! ## P1 -/
section
namespace Mine
def stepP (p : Int × Int) (c : Int) (row : List Int) (n : Int) : List Int := match row.getLast? with
  | some y => if y = p.1 ∧ n = p.2 then row.dropLast ++ [c] else row ++ [n]
  | none => row ++ [n]
def pass (p : Int × Int) (c : Int) (us : List Int) : List Int := us.foldl (stepP p c) []
def wr (rs : List (Int × Int)) (us : List Int) : Nat → List Int
  | 0 => us
  | i + 1 => match rs[i]? with
    | some p => pass p (256 + (i : Int)) (wr rs us i)
    | none => wr rs us i
def written (rs : List (Int × Int)) (us : List Int) : List Int := wr rs us rs.length
theorem stepP_length (p : Int × Int) (c : Int) (row : List Int) (n : Int) : (stepP p c row n).length ≤ row.length + 1 := by
  unfold stepP
  split
  · split
    · rw [List.length_append, List.length_dropLast, List.length_singleton]; omega
    · simp
  · simp
theorem foldl_stepP_length (p : Int × Int) (c : Int) : ∀ (us row : List Int), (us.foldl (stepP p c) row).length ≤ row.length + us.length
  | [], row => by simp
  | n :: us, row => by
    rw [List.foldl_cons, List.length_cons]
    have h1 := foldl_stepP_length p c us (stepP p c row n)
    have h2 := stepP_length p c row n
    omega
theorem pass_length (p : Int × Int) (c : Int) (us : List Int) : (pass p c us).length ≤ us.length := by
  have := foldl_stepP_length p c us []
  simpa [pass] using this
theorem wr_length (rs : List (Int × Int)) (us : List Int) : ∀ i, (wr rs us i).length ≤ us.length
  | 0 => Nat.le_refl _
  | i + 1 => by
    have ih := wr_length rs us i
    show (match rs[i]? with | some p => pass p (256 + (i : Int)) (wr rs us i) | none => wr rs us i).length ≤ _
    split
    · exact Nat.le_trans (pass_length ..) ih
    · exact ih
end Mine
end
/-! ## P2 -/
section
namespace Mine
def at2 (l : List Int) (k : Nat) : Option (Int × Int) := match l[k]?, l[k + 1]? with
  | some a, some b => some (a, b)
  | _, _ => none
def fnd1 (rs : List (Int × Int)) (l : List Int) (k : Nat) : List (Int × Int) := match at2 l k with
  | some p => if p ∈ rs then [(((rs.idxOf p : Nat) : Int), (k : Int))] else []
  | none => []
def fnd (rs : List (Int × Int)) (l : List Int) (n : Nat) : List (Int × Int) := (List.range n).flatMap (fnd1 rs l)
theorem fnd_succ (rs : List (Int × Int)) (l : List Int) (n : Nat) : fnd rs l (n + 1) = fnd rs l n ++ fnd1 rs l n := by
  simp [fnd, List.range_succ]
inductive Melts (rs : List (Int × Int)) : Nat → List Int → List Int → Prop
  | out (l : List Int) : Melts rs 0 l l
  | stop (n : Nat) (l : List Int) : fnd rs l (l.length - 1) = [] → Melts rs (n + 1) l l
  | turn (n : Nat) (l l' : List Int) (r k : Nat) : ((r : Int), (k : Int)) ∈ fnd rs l (l.length - 1) → (∀ q ∈ fnd rs l (l.length - 1), ¬ (q.1 < (r : Int) ∨ (q.1 = (r : Int) ∧ q.2 < (k : Int)))) →
      Melts rs n (l.take k ++ [256 + (r : Int)] ++ l.drop (k + 2)) l' → Melts rs (n + 1) l l'
theorem fnd_mem {rs : List (Int × Int)} {l : List Int} {n : Nat} {q : Int × Int} (h : q ∈ fnd rs l n) : ∃ (k : Nat) (p : Int × Int), k < n ∧ at2 l k = some p ∧ p ∈ rs ∧ q = (((rs.idxOf p : Nat) : Int), (k : Int)) := by
  obtain ⟨k, hk, hq⟩ := List.mem_flatMap.mp h
  unfold fnd1 at hq
  cases hp : at2 l k with
  | none => rw [hp] at hq; cases hq
  | some p =>
    rw [hp] at hq
    simp only at hq
    by_cases hm : p ∈ rs
    · rw [if_pos hm] at hq
      exact ⟨k, p, List.mem_range.mp hk, hp, hm, List.mem_singleton.mp hq⟩
    · rw [if_neg hm] at hq; cases hq
theorem mem_fnd {rs : List (Int × Int)} {l : List Int} {n k : Nat} {p : Int × Int} (hk : k < n) (hp : at2 l k = some p) (hm : p ∈ rs) : (((rs.idxOf p : Nat) : Int), (k : Int)) ∈ fnd rs l n := by
  refine List.mem_flatMap.mpr ⟨k, List.mem_range.mpr hk, ?_⟩
  simp [fnd1, hp, hm]
end Mine
end
/-! ## P3 -/
section
namespace Mine
def dfltN : List Int := [3, 3, 1, 3, 2, 5, 1]
def numsOf (sc : List Int) : List Int := sc.take 7 ++ dfltN.drop (sc.take 7).length
def headsN (i : Nat) : List Int := [97, 98, 255] ++ (List.range i).map fun (j : Nat) => (256 : Int) + (j : Int)
def pickH (i : Nat) (x : Int) : Int := ((headsN i)[(x.fmod ((3 + i : Nat) : Int)).toNat]?).getD 0
def ruleOf (i : Nat) (v : Int) : Int × Int := (pickH i v, pickH i (v.fdiv ((3 + i : Nat) : Int)))
def rulesN (nums : List Int) (i : Nat) : List (Int × Int) := (List.range i).map fun j => ruleOf j ((nums[j]?).getD 0)
def rowN (nums : List Int) : List Int := (nums.drop 3).map (pickH 3)
theorem numsOf_length (sc : List Int) : (numsOf sc).length = 7 := by
  unfold numsOf
  rw [List.length_append, List.length_drop, List.length_take]
  show _ + (7 - _) = 7
  omega
theorem headsN_length (i : Nat) : (headsN i).length = 3 + i := by simp [headsN]; omega
theorem headsN_succ (i : Nat) : headsN (i + 1) = headsN i ++ [256 + (i : Int)] := by simp [headsN, List.range_succ]
theorem rulesN_succ (nums : List Int) (i : Nat) : rulesN nums (i + 1) = rulesN nums i ++ [ruleOf i ((nums[i]?).getD 0)] := by simp [rulesN, List.range_succ]
theorem rulesN_length (nums : List Int) (i : Nat) : (rulesN nums i).length = i := by simp [rulesN]
theorem fmod_lt (x : Int) (n : Nat) (hn : 0 < n) : 0 ≤ x.fmod n ∧ x.fmod n < n := ⟨Int.fmod_nonneg_of_pos x (by omega), Int.fmod_lt_of_pos x (by omega)⟩
theorem pickH_at (i : Nat) (x : Int) : (headsN i)[(x.fmod ((3 + i : Nat) : Int)).toNat]? = some (pickH i x) := by
  obtain ⟨h1, h2⟩ := fmod_lt x (3 + i) (by omega)
  have : (x.fmod ((3 + i : Nat) : Int)).toNat < (headsN i).length := by rw [headsN_length]; omega
  unfold pickH
  rw [List.getElem?_eq_getElem this]; rfl
theorem headsN_sym (i : Nat) : ∀ x ∈ headsN i, Sym i x := by
  intro x hx
  rcases List.mem_append.mp hx with h | h
  · simp at h
    exact .inl h
  · obtain ⟨j, hj, rfl⟩ := List.mem_map.mp h
    have := List.mem_range.mp hj
    exact .inr ⟨by omega, by omega⟩
theorem pickH_sym (i : Nat) (x : Int) : Sym i (pickH i x) := headsN_sym i _ (List.mem_of_getElem? (pickH_at i x))
theorem rulesN_strat (nums : List Int) (i : Nat) : Strat (rulesN nums i) := by
  intro j p hp
  unfold rulesN at hp
  rw [List.getElem?_map] at hp
  cases hr : (List.range i)[j]? with
  | none => rw [hr] at hp; cases hp
  | some k =>
    rw [hr] at hp
    have hk : k = j := by
      have := List.getElem?_eq_some_iff.mp hr
      obtain ⟨h1, h2⟩ := this
      simp at h2; exact h2.symm
    subst hk
    cases hp
    exact ⟨pickH_sym k _, pickH_sym k _⟩
theorem rowN_sym (nums : List Int) : ∀ x ∈ rowN nums, Sym 3 x := by
  intro x hx
  obtain ⟨v, _, rfl⟩ := List.mem_map.mp hx
  exact pickH_sym 3 v
theorem rowN_length (sc : List Int) : (rowN (numsOf sc)).length = 4 := by simp [rowN, numsOf_length]
end Mine
end
/-! ## P4 -/
section
namespace Mine
def red (p : Int × Int) (c : Int) : List Int → List Int
  | [] => []
  | [a] => [a]
  | a :: b :: r => if a = p.1 ∧ b = p.2 then c :: red p c r else a :: red p c (b :: r)
theorem red_cons_ne {p : Int × Int} {c a : Int} (h : a ≠ p.1) (r : List Int) : red p c (a :: r) = a :: red p c r := by
  cases r with
  | nil => rfl
  | cons b r => simp [red, h]
theorem foldl_red {p : Int × Int} {c : Int} (hc : c ≠ p.1) : ∀ (n : Nat) (us : List Int), us.length ≤ n → ∀ (acc : List Int) (a : Int), us.foldl (stepP p c) (acc ++ [a]) = acc ++ red p c (a :: us) := by
  intro n
  induction n with
  | zero =>
    intro us hn acc a
    have : us = [] := List.length_eq_zero_iff.mp (by omega)
    subst this
    rfl
  | succ n ih =>
    intro us hn acc a
    cases us with
    | nil => rfl
    | cons b r =>
      have hr : r.length ≤ n := by simpa using hn
      rw [List.foldl_cons]
      have e : stepP p c (acc ++ [a]) b = if a = p.1 ∧ b = p.2 then acc ++ [c] else (acc ++ [a]) ++ [b] := by simp [stepP]
      rw [e]
      by_cases h : a = p.1 ∧ b = p.2
      · rw [if_pos h, ih r hr acc c, red_cons_ne hc]
        simp [red, h]
      · rw [if_neg h, ih r hr (acc ++ [a]) b]
        simp [red, h]
theorem pass_red {p : Int × Int} {c : Int} (hc : c ≠ p.1) (us : List Int) : pass p c us = red p c us := by
  cases us with
  | nil => rfl
  | cons a r =>
    show (a :: r).foldl (stepP p c) [] = _
    rw [List.foldl_cons]
    have e : stepP p c [] a = [] ++ [a] := rfl
    rw [e, foldl_red hc _ r (Nat.le_refl _)]
    rfl

def Adj (R : Int → Int → Prop) (l : List Int) : Prop := ∀ (i : Nat) (a b : Int), l[i]? = some a → l[i + 1]? = some b → R a b
theorem Adj.nil (R : Int → Int → Prop) : Adj R [] := fun i a b h => by simp at h
theorem Adj.one (R : Int → Int → Prop) (x : Int) : Adj R [x] := fun i a b h h' => by simp at h'
theorem adj_cons {R : Int → Int → Prop} {a b : Int} {r : List Int} : Adj R (a :: b :: r) ↔ R a b ∧ Adj R (b :: r) := by
  refine ⟨fun h => ⟨h 0 a b rfl rfl, fun i x y hx hy => h (i + 1) x y hx hy⟩, fun ⟨h1, h2⟩ i x y hx hy => ?_⟩
  cases i with
  | zero => simp at hx hy; subst hx hy; exact h1
  | succ i => exact h2 i x y hx hy
theorem adj_tail {R : Int → Int → Prop} {a : Int} {r : List Int} (h : Adj R (a :: r)) : Adj R r := fun i x y hx hy => h (i + 1) x y hx hy
theorem adj_infix {R : Int → Int → Prop} {A M C : List Int} (h : Adj R (A ++ M ++ C)) : Adj R M := by
  intro i x y hx hy
  have h1 := (List.getElem?_eq_some_iff.mp hx).1
  have h2 := (List.getElem?_eq_some_iff.mp hy).1
  refine h (A.length + i) x y ?_ ?_
  · rw [List.append_assoc, List.getElem?_append_right (by omega), Nat.add_sub_cancel_left, List.getElem?_append_left h1]; exact hx
  · rw [List.append_assoc, Nat.add_assoc, List.getElem?_append_right (by omega), Nat.add_sub_cancel_left, List.getElem?_append_left h2]; exact hy
theorem adj_mid {R : Int → Int → Prop} {A M C : List Int} (hM : M ≠ []) : Adj R (A ++ M ++ C) ↔ Adj R (A ++ M) ∧ Adj R (M ++ C) := by
  have hm := List.length_pos_iff.mpr hM
  refine ⟨fun h => ⟨adj_infix (A := []) (C := C) (by simpa using h), adj_infix (A := A) (C := []) (by simpa using h)⟩, fun ⟨h1, h2⟩ i x y hx hy => ?_⟩
  by_cases hi : i + 1 < (A ++ M).length
  · rw [List.getElem?_append_left (by omega)] at hx
    rw [List.getElem?_append_left hi] at hy
    exact h1 i x y hx hy
  · rw [List.length_append] at hi
    rw [List.append_assoc, List.getElem?_append_right (by omega)] at hx
    rw [List.append_assoc, List.getElem?_append_right (by omega)] at hy
    have e : i + 1 - A.length = (i - A.length) + 1 := by omega
    rw [e] at hy
    exact h2 _ x y hx hy

def un1 (p : Int × Int) (c : Int) (s : Int) : List Int := if s = c then [p.1, p.2] else [s]
def un (p : Int × Int) (c : Int) (m : List Int) : List Int := m.flatMap (un1 p c)
theorem un1_ne (p : Int × Int) (c s : Int) : un1 p c s ≠ [] := by unfold un1; split <;> simp
theorem un_append (p : Int × Int) (c : Int) (a b : List Int) : un p c (a ++ b) = un p c a ++ un p c b := by simp [un]
theorem un_ne {p : Int × Int} {c : Int} {m : List Int} (h : m ≠ []) : un p c m ≠ [] := by
  cases m with
  | nil => exact absurd rfl h
  | cons a r =>
    show un1 p c a ++ _ ≠ []
    intro e
    exact un1_ne p c a (List.append_eq_nil_iff.mp e).1
def okp (p : Int × Int) (c : Int) (a b : Int) : Prop := ¬ (a = p.1 ∧ (if b = c then p.1 else b) = p.2)
theorem red_un {p : Int × Int} {c : Int} (hc : c ≠ p.1) : ∀ m : List Int, red p c (un p c m) = m ↔ Adj (okp p c) m
  | [] => by simp [un, red, Adj.nil]
  | a :: r => by
    have ih := red_un hc r
    by_cases ha : a = c
    · have e : un p c (a :: r) = p.1 :: p.2 :: un p c r := by simp [un, un1, ha]
      rw [e]
      have e2 : red p c (p.1 :: p.2 :: un p c r) = c :: red p c (un p c r) := by simp [red]
      rw [e2, ha]
      rw [List.cons_inj_right, ih]
      cases r with
      | nil => exact ⟨fun _ => Adj.one _ _, fun _ => Adj.nil _⟩
      | cons b r' => rw [adj_cons]; exact ⟨fun h => ⟨fun h' => hc h'.1, h⟩, fun h => h.2⟩
    · have e : un p c (a :: r) = a :: un p c r := by simp [un, un1, ha]
      rw [e]
      cases r with
      | nil => simp [un, red, Adj.one]
      | cons b r' =>
        obtain ⟨hd, tl, htl, hhd⟩ : ∃ hd tl, un p c (b :: r') = hd :: tl ∧ hd = (if b = c then p.1 else b) := by
          by_cases hb : b = c
          · exact ⟨p.1, p.2 :: un p c r', by simp [un, un1, hb], by simp [hb]⟩
          · exact ⟨b, un p c r', by simp [un, un1, hb], by simp [hb]⟩
        rw [adj_cons, htl]
        rw [htl] at ih
        by_cases hm : a = p.1 ∧ hd = p.2
        · have e3 : red p c (a :: hd :: tl) = c :: red p c tl := by simp [red, hm]
          rw [e3]
          refine ⟨fun h => absurd (List.cons_eq_cons.mp h).1.symm ha, fun h => absurd ⟨hm.1, by rw [← hhd]; exact hm.2⟩ h.1⟩
        · have e3 : red p c (a :: hd :: tl) = a :: red p c (hd :: tl) := by simp [red, hm]
          rw [e3, List.cons_inj_right, ih]
          refine ⟨fun h => ⟨fun h' => hm ⟨h'.1, by rw [hhd]; exact h'.2⟩, h⟩, fun h => h.2⟩
theorem un_red {p : Int × Int} {c : Int} : ∀ (n : Nat) (l : List Int), l.length ≤ n → c ∉ l → un p c (red p c l) = l := by
  intro n
  induction n with
  | zero =>
    intro l hl _
    have : l = [] := List.length_eq_zero_iff.mp (by omega)
    subst this; rfl
  | succ n ih =>
    intro l hl hc
    match l, hl, hc with
    | [], _, _ => rfl
    | [a], _, hc =>
      have : a ≠ c := fun e => hc (by simp [e])
      simp [red, un, un1, this]
    | a :: b :: r, hl, hc =>
      have ha : a ≠ c := fun e => hc (by simp [e])
      by_cases hm : a = p.1 ∧ b = p.2
      · have e : red p c (a :: b :: r) = c :: red p c r := by simp [red, hm]
        rw [e]
        have : un p c (c :: red p c r) = p.1 :: p.2 :: un p c (red p c r) := by simp [un, un1]
        rw [this, ih r (by simp at hl; omega) (fun h => hc (by simp [h])), ← hm.1, ← hm.2]
      · have e : red p c (a :: b :: r) = a :: red p c (b :: r) := by simp [red, hm]
        rw [e]
        have : un p c (a :: red p c (b :: r)) = a :: un p c (red p c (b :: r)) := by simp [un, un1, ha]
        rw [this, ih (b :: r) (by simp at hl ⊢; omega) (fun h => hc (by simp at h ⊢; exact .inr h))]
theorem red_mem {p : Int × Int} {c : Int} : ∀ (n : Nat) (l : List Int), l.length ≤ n → ∀ x ∈ red p c l, x = c ∨ x ∈ l := by
  intro n
  induction n with
  | zero =>
    intro l hl x hx
    have : l = [] := List.length_eq_zero_iff.mp (by omega)
    subst this; cases hx
  | succ n ih =>
    intro l hl x hx
    match l, hl, hx with
    | [], _, hx => cases hx
    | [a], _, hx => exact .inr hx
    | a :: b :: r, hl, hx =>
      by_cases hm : a = p.1 ∧ b = p.2
      · have e : red p c (a :: b :: r) = c :: red p c r := by simp [red, hm]
        rw [e] at hx
        rcases List.mem_cons.mp hx with h | h
        · exact .inl h
        · exact (ih r (by simp at hl; omega) x h).imp id fun h => by simp [h]
      · have e : red p c (a :: b :: r) = a :: red p c (b :: r) := by simp [red, hm]
        rw [e] at hx
        rcases List.mem_cons.mp hx with h | h
        · exact .inr (by simp [h])
        · exact (ih (b :: r) (by simp at hl ⊢; omega) x h).imp id fun h => List.mem_cons_of_mem _ h
theorem red_ne {p : Int × Int} {c : Int} {l : List Int} (h : l ≠ []) : red p c l ≠ [] := by
  match l, h with
  | [], h => exact absurd rfl h
  | [a], _ => simp [red]
  | a :: b :: r, _ =>
    by_cases hm : a = p.1 ∧ b = p.2 <;> simp [red, hm]
abbrev NoP (p : Int × Int) : List Int → Prop := Adj fun a b => ¬ (a = p.1 ∧ b = p.2)
theorem red_id {p : Int × Int} {c : Int} : ∀ {l : List Int}, NoP p l → red p c l = l
  | [], _ => rfl
  | [a], _ => rfl
  | a :: b :: r, h => by
    obtain ⟨h1, h2⟩ := adj_cons.mp h
    simp only [red, if_neg h1]
    rw [red_id h2]
theorem red_append {p : Int × Int} {c h : Int} {t : List Int} : ∀ {A : List Int}, NoP p (A ++ [h]) → red p c (A ++ h :: t) = A ++ red p c (h :: t)
  | [], _ => rfl
  | [a], hA => by
    have := (adj_cons.mp hA).1
    show red p c (a :: h :: t) = _
    simp only [red, if_neg this]; rfl
  | a :: b :: r, hA => by
    obtain ⟨h1, h2⟩ := adj_cons.mp hA
    show red p c (a :: b :: (r ++ h :: t)) = _
    have ih := red_append (t := t) (c := c) (A := b :: r) (h := h) h2
    simp only [red, if_neg h1]
    have e : red p c (b :: (r ++ h :: t)) = b :: r ++ red p c (h :: t) := ih
    rw [e]; rfl
end Mine
end
/-! ## P5 -/
section
namespace Mine
theorem Sym.le {f : Nat} {x : Int} (h : Sym f x) : x < 256 + (f : Int) ∧ 0 ≤ x := by
  rcases h with h | h
  · have := h.lt; omega
  · omega
theorem getElem_at2 {l : List Int} {k : Nat} {x y : Int} (hx : l[k]? = some x) (hy : l[k + 1]? = some y) : at2 l k = some (x, y) := by
  unfold at2; rw [hx, hy]
theorem at2_some {l : List Int} {k : Nat} {q : Int × Int} (h : at2 l k = some q) : l[k]? = some q.1 ∧ l[k + 1]? = some q.2 := by
  unfold at2 at h
  cases h1 : l[k]? with
  | none => rw [h1] at h; cases h
  | some a =>
    cases h2 : l[k + 1]? with
    | none => rw [h1, h2] at h; cases h
    | some b => rw [h1, h2] at h; cases h; exact ⟨rfl, rfl⟩
theorem split_at {l : List Int} {k : Nat} {x y : Int} (hx : l[k]? = some x) (hy : l[k + 1]? = some y) : l = l.take k ++ x :: y :: l.drop (k + 2) := by
  obtain ⟨h1, rfl⟩ := List.getElem?_eq_some_iff.mp hx
  obtain ⟨h2, rfl⟩ := List.getElem?_eq_some_iff.mp hy
  have e1 : l[k + 1] :: l.drop (k + 2) = l.drop (k + 1) := List.getElem_cons_drop ..
  have e2 : l[k] :: l.drop (k + 1) = l.drop k := List.getElem_cons_drop ..
  rw [e1, e2, List.take_append_drop]

section
variable {p0 p1 p2 : Int × Int}
/-- the three passes -/
def W3 (p0 p1 p2 : Int × Int) (l : List Int) : List Int := red p2 258 (red p1 257 (red p0 256 l))
structure Ok3 (p0 p1 p2 : Int × Int) : Prop where
  a0 : Sym 0 p0.1
  b0 : Sym 0 p0.2
  a1 : Sym 1 p1.1
  b1 : Sym 1 p1.2
  a2 : Sym 2 p2.1
  b2 : Sym 2 p2.2
theorem ok3_of (h : Strat [p0, p1, p2]) : Ok3 p0 p1 p2 := ⟨(h 0 p0 rfl).1, (h 0 p0 rfl).2, (h 1 p1 rfl).1, (h 1 p1 rfl).2, (h 2 p2 rfl).1, (h 2 p2 rfl).2⟩
theorem written_W3 (O : Ok3 p0 p1 p2) (us : List Int) : written [p0, p1, p2] us = W3 p0 p1 p2 us := by
  show pass p2 (256 + ((2 : Nat) : Int)) (pass p1 (256 + ((1 : Nat) : Int)) (pass p0 (256 + ((0 : Nat) : Int)) us)) = _
  have h0 := O.a0.le
  have h1 := O.a1.le
  have h2 := O.a2.le
  rw [pass_red (by omega), pass_red (by omega), pass_red (by omega)]
  rfl

/-- a step of melting keeps what the passes give -/
theorem red_step {p : Int × Int} {c x y : Int} {A C : List Int} (hc : c ≠ p.1) (hc2 : c ≠ p.2) (hxy : (x, y) = p) (hA : NoP p (A ++ [x])) : red p c (A ++ x :: y :: C) = red p c (A ++ [c] ++ C) := by
  subst hxy
  rw [red_append hA]
  have e1 : red (x, y) c (x :: y :: C) = c :: red (x, y) c C := by simp [red]
  rw [e1]
  have hA2 : NoP (x, y) (A ++ [c]) := by
    intro i a b ha hb hm
    by_cases hi : i + 1 < A.length
    · rw [List.getElem?_append_left (by omega)] at ha
      rw [List.getElem?_append_left hi] at hb
      exact hA i a b (by rw [List.getElem?_append_left (by omega)]; exact ha) (by rw [List.getElem?_append_left hi]; exact hb) hm
    · have h2 := (List.getElem?_eq_some_iff.mp hb).1
      simp at h2
      have e : i + 1 = A.length := by omega
      rw [e] at hb
      have hbc : b = c := by simpa using hb.symm
      exact hc2 (hbc ▸ hm.2)
  rw [List.append_assoc]
  show _ = red (x, y) c (A ++ c :: C)
  rw [red_append hA2, red_cons_ne hc]
theorem nop_repl {p : Int × Int} {c : Int} {A C : List Int} {x y : Int} (h : NoP p (A ++ x :: y :: C)) (hc : c ≠ p.1) (hc2 : c ≠ p.2) : NoP p (A ++ [c] ++ C) := by
  have hA : NoP p A := adj_infix (A := []) (C := x :: y :: C) (by rw [List.nil_append]; exact h)
  have hC : NoP p C := adj_infix (A := A ++ [x, y]) (C := []) (by rw [List.append_nil, List.append_assoc]; exact h)
  intro i a b ha hb hm
  have hne : ∀ (j : Nat) (v : Int), (A ++ [c] ++ C)[j]? = some v → v ≠ c → (j < A.length ∧ A[j]? = some v) ∨ (A.length + 1 ≤ j ∧ C[j - (A.length + 1)]? = some v) := by
    intro j v hv hvc
    by_cases h1 : j < A.length
    · left
      rw [List.append_assoc, List.getElem?_append_left h1] at hv
      exact ⟨h1, hv⟩
    · by_cases h2 : j = A.length
      · subst h2
        simp at hv
        exact absurd hv.symm hvc
      · right
        rw [List.getElem?_append_right (by simp; omega)] at hv
        refine ⟨by omega, ?_⟩
        simpa using hv
  rcases hne i a ha (fun e => hc (e ▸ hm.1)) with ⟨h1, h2⟩ | ⟨h1, h2⟩
  · rcases hne (i + 1) b hb (fun e => hc2 (e ▸ hm.2)) with ⟨h3, h4⟩ | ⟨h3, h4⟩
    · exact hA i a b h2 h4 hm
    · omega
  · rcases hne (i + 1) b hb (fun e => hc2 (e ▸ hm.2)) with ⟨h3, h4⟩ | ⟨h3, h4⟩
    · omega
    · have e : i + 1 - (A.length + 1) = (i - (A.length + 1)) + 1 := by omega
      rw [e] at h4
      exact hC _ a b h2 h4 hm

theorem melts_eq (O : Ok3 p0 p1 p2) : ∀ {n : Nat} {l l' : List Int}, Melts [p0, p1, p2] n l l' → l.length ≤ n → l' = W3 p0 p1 p2 l := by
  intro n l l' h
  have s0 := O.a0.le
  have t0 := O.b0.le
  have s1 := O.a1.le
  have t1 := O.b1.le
  have s2 := O.a2.le
  have t2 := O.b2.le
  have nopOf : ∀ (l : List Int) (p : Int × Int), p ∈ [p0, p1, p2] → (∀ q ∈ fnd [p0, p1, p2] l (l.length - 1), q.1 ≠ (([p0, p1, p2].idxOf p : Nat) : Int)) → NoP p l := by
    intro l p hp hq i a b ha hb hm
    have hlt := (List.getElem?_eq_some_iff.mp hb).1
    have hpe : (a, b) = p := Prod.ext hm.1 hm.2
    refine hq _ (mem_fnd (n := l.length - 1) (k := i) (p := p) (by omega) ?_ hp) rfl
    rw [← hpe]; exact getElem_at2 ha hb
  induction h with
  | out l =>
    intro hl
    have : l = [] := List.length_eq_zero_iff.mp (by omega)
    subst this; rfl
  | stop n l hf =>
    intro _
    have no : ∀ p ∈ [p0, p1, p2], NoP p l := fun p hp => nopOf l p hp (fun q hq => by rw [hf] at hq; cases hq)
    unfold W3
    rw [red_id (no p0 (by simp)), red_id (no p1 (by simp)), red_id (no p2 (by simp))]
  | turn n l l' r k hm hb _ ih =>
    intro hl
    obtain ⟨k', q, hk, hat, hq, he⟩ := fnd_mem hm
    have er : r = [p0, p1, p2].idxOf q := by have := congrArg Prod.fst he; simp only at this; omega
    have ek : k = k' := by have := congrArg Prod.snd he; simp only at this; omega
    subst ek
    obtain ⟨hx, hy⟩ := at2_some hat
    have hsp := split_at hx hy
    have hlen : (l.take k ++ [256 + (r : Int)] ++ l.drop (k + 2)).length ≤ n := by
      simp only [List.length_append, List.length_take, List.length_drop, List.length_cons, List.length_nil]; omega
    rw [ih hlen]
    -- no earlier rule fits
    have early : ∀ p ∈ [p0, p1, p2], [p0, p1, p2].idxOf p < r → NoP p l := fun p hp hlt => nopOf l p hp (fun q' hq' e => (hb q' hq') (.inl (by rw [e]; omega)))
    -- no earlier place
    have left : NoP q (l.take k ++ [q.1]) := by
      intro i a b ha hb' hm'
      have h2 := (List.getElem?_eq_some_iff.mp hb').1
      have hkl := (List.getElem?_eq_some_iff.mp hx).1
      simp only [List.length_append, List.length_take, List.length_cons, List.length_nil] at h2
      have hik : i < k := by omega
      have ha' : l[i]? = some a := by
        rw [List.getElem?_append_left (by rw [List.length_take]; omega), List.getElem?_take, if_pos hik] at ha; exact ha
      have hb2 : l[i + 1]? = some b := by
        by_cases hi : i + 1 < k
        · rw [List.getElem?_append_left (by rw [List.length_take]; omega), List.getElem?_take, if_pos hi] at hb'; exact hb'
        · have e : i + 1 = k := by omega
          rw [e] at hb' ⊢
          rw [List.getElem?_append_right (by rw [List.length_take]; omega)] at hb'
          rw [List.length_take, Nat.min_eq_left (by omega), Nat.sub_self] at hb'
          rw [hx]; exact hb'
      have hqe : (a, b) = q := Prod.ext hm'.1 hm'.2
      have hmem := mem_fnd (n := l.length - 1) (k := i) (p := q) (by omega) (by rw [← hqe]; exact getElem_at2 ha' hb2) hq
      exact hb _ hmem (.inr ⟨by rw [er], by show (i : Int) < (k : Int); omega⟩)
    have hqm : [p0, p1, p2][r]? = some q := by
      rw [er, List.getElem?_eq_getElem (List.idxOf_lt_length_iff.mpr hq), List.getElem_idxOf]
    have hr3 : r < 3 := (List.getElem?_eq_some_iff.mp hqm).1
    unfold W3
    generalize hA : l.take k = A at *
    generalize hC : l.drop (k + 2) = C at *
    have hr : r = 0 ∨ r = 1 ∨ r = 2 := by omega
    rcases hr with hr | hr | hr
    · rw [hr] at hqm ⊢
      have hq0 : q = p0 := by simpa using hqm.symm
      subst hq0
      rw [hsp]
      rw [red_step (c := 256) (by omega) (by omega) rfl left]
      rfl
    · have hn0 : p0 ≠ q := fun e => by rw [er, ← e] at hr; simp at hr
      have i0 : [p0, p1, p2].idxOf p0 = 0 := by simp
      have e0 := early p0 (by simp) (by rw [i0, hr]; decide)
      rw [hr] at hqm ⊢
      have hq0 : q = p1 := by simpa using hqm.symm
      subst hq0
      rw [red_id e0]
      rw [hsp] at e0
      have e1 : red p0 256 (A ++ [256 + ((1 : Nat) : Int)] ++ C) = A ++ [257] ++ C := red_id (nop_repl e0 (by omega) (by omega))
      rw [e1, hsp, red_step (c := 257) (by omega) (by omega) rfl left]
    · have i0 : [p0, p1, p2].idxOf p0 = 0 := by simp
      have e0 := early p0 (by simp) (by rw [i0, hr]; decide)
      have i1 : [p0, p1, p2].idxOf p1 < 2 := by
        rw [List.idxOf_cons, List.idxOf_cons]
        cases (p0 == p1) <;> simp
      have e1 := early p1 (by simp) (by rw [hr]; exact i1)
      rw [hr] at hqm ⊢
      have hq0 : q = p2 := by simpa using hqm.symm
      subst hq0
      rw [red_id e0, red_id e1]
      rw [hsp] at e0 e1
      have f0 : red p0 256 (A ++ [256 + ((2 : Nat) : Int)] ++ C) = A ++ [258] ++ C := red_id (nop_repl e0 (by omega) (by omega))
      have f1 : red p1 257 (A ++ [258] ++ C) = A ++ [258] ++ C := red_id (nop_repl e1 (by omega) (by omega))
      rw [f0, f1, hsp, red_step (c := 258) (by omega) (by omega) rfl left]
end
end Mine
end
/-! ## P6 -/
section
namespace Mine
section
variable {p0 p1 p2 : Int × Int}
def un3 (p0 p1 p2 : Int × Int) (m : List Int) : List Int := un p0 256 (un p1 257 (un p2 258 m))
abbrev lv3 (p0 p1 p2 : Int × Int) (m : List Int) : List Int := m.flatMap (expand [p0, p1, p2] 3)
theorem un_one {p : Int × Int} {c x : Int} : un p c [x] = un1 p c x := by simp [un]
theorem un1_id {p : Int × Int} {c x : Int} (h : x ≠ c) : un1 p c x = [x] := by simp [un1, h]
theorem un1_at {p : Int × Int} {c : Int} : un1 p c c = [p.1, p.2] := by simp [un1]
theorem un_two {p : Int × Int} {c x y : Int} : un p c [x, y] = un1 p c x ++ un1 p c y := by simp [un]
theorem sym1 {x : Int} (h : Sym 1 x) : Leaf x ∨ x = 256 := h.imp id fun h => by omega
theorem sym2 {x : Int} (h : Sym 2 x) : Leaf x ∨ x = 256 ∨ x = 257 := h.imp id fun h => by omega
theorem sym3 {x : Int} (h : Sym 3 x) : Leaf x ∨ x = 256 ∨ x = 257 ∨ x = 258 := h.imp id fun h => by omega
theorem sym0 {x : Int} (h : Sym 0 x) : Leaf x := h.elim id fun h => by omega
theorem ex1 (O : Ok3 p0 p1 p2) (f : Nat) {x : Int} (h : Sym 1 x) : un1 p0 256 x = expand [p0, p1, p2] (f + 1) x := by
  rcases sym1 h with h | rfl
  · have := h.lt
    rw [un1_id (by omega), expand_leaf _ _ (by omega)]
  · rw [un1_at, expand_rule _ f (p := p0) (by omega) rfl, expand_leaf _ _ (sym0 O.a0).lt.1, expand_leaf _ _ (sym0 O.b0).lt.1]; rfl
theorem ex2 (O : Ok3 p0 p1 p2) (f : Nat) {x : Int} (h : Sym 2 x) : un p0 256 (un1 p1 257 x) = expand [p0, p1, p2] (f + 2) x := by
  rcases sym2 h with h | rfl | rfl
  · have := h.lt
    rw [un1_id (by omega), un_one, un1_id (by omega), expand_leaf _ _ (by omega)]
  · rw [un1_id (by omega), un_one, ex1 O (f + 1) (.inr (by omega))]
  · rw [un1_at, un_two, expand_rule _ (f + 1) (p := p1) (by omega) rfl, ex1 O f O.a1, ex1 O f O.b1]
theorem ex3 (O : Ok3 p0 p1 p2) {x : Int} (h : Sym 3 x) : un p0 256 (un p1 257 (un1 p2 258 x)) = expand [p0, p1, p2] 3 x := by
  rcases sym3 h with h | rfl | rfl | rfl
  · have := h.lt
    rw [un1_id (by omega), un_one, un1_id (by omega), un_one, un1_id (by omega), expand_leaf _ _ (by omega)]
  · rw [un1_id (by omega), un_one, ex2 O 1 (.inr (by omega))]
  · rw [un1_id (by omega), un_one, ex2 O 1 (.inr (by omega))]
  · rw [un1_at, un_two, un_append, expand_rule _ 2 (p := p2) (by omega) rfl, ex2 O 0 O.a2, ex2 O 0 O.b2]
theorem un3_lv (O : Ok3 p0 p1 p2) : ∀ {m : List Int}, (∀ x ∈ m, Sym 3 x) → un3 p0 p1 p2 m = lv3 p0 p1 p2 m
  | [], _ => rfl
  | x :: r, h => by
    have ih := un3_lv O (m := r) fun y hy => h y (.tail _ hy)
    show un p0 256 (un p1 257 (un1 p2 258 x ++ un p2 258 r)) = _
    rw [un_append, un_append, ex3 O (h x (.head _))]
    show _ ++ un3 p0 p1 p2 r = _
    rw [ih]; rfl
theorem lv3_leaf (O : Ok3 p0 p1 p2) {m : List Int} (h : ∀ x ∈ m, Sym 3 x) : ∀ y ∈ lv3 p0 p1 p2 m, Leaf y := by
  have key : ∀ (f : Nat) (x : Int), f ≤ 3 → Sym f x → ∀ y ∈ expand [p0, p1, p2] f x, Leaf y := by
    intro f
    induction f with
    | zero => intro x _ hx y hy; simp [expand] at hy; subst hy; exact sym0 hx
    | succ f ih =>
      intro x hf hx y hy
      by_cases hlt : x < 256
      · rw [expand_leaf _ _ hlt] at hy
        rw [List.mem_singleton.mp hy]
        exact hx.elim id fun h => by omega
      · obtain ⟨hlo, hhi⟩ : 256 ≤ x ∧ x < 256 + ((f + 1 : Nat) : Int) := hx.elim (fun h => absurd h.lt.1 hlt) id
        have hf3 : f = 0 ∨ f = 1 ∨ f = 2 := by omega
        have hx3 : x = 256 ∨ x = 257 ∨ x = 258 := by omega
        have go : ∀ p : Int × Int, [p0, p1, p2][(x - 256).toNat]? = some p → Sym f p.1 → Sym f p.2 → Leaf y := by
          intro p hp h1 h2
          rw [expand_rule _ f hlt hp] at hy
          rcases List.mem_append.mp hy with hy | hy
          · exact ih _ (by omega) h1 y hy
          · exact ih _ (by omega) h2 y hy
        rcases hx3 with rfl | rfl | rfl
        · exact go p0 rfl (O.a0.mono (by omega)) (O.b0.mono (by omega))
        · exact go p1 rfl (O.a1.mono (by omega)) (O.b1.mono (by omega))
        · exact go p2 rfl (O.a2.mono (by omega)) (O.b2.mono (by omega))
  intro y hy
  obtain ⟨x, hx, hy⟩ := List.mem_flatMap.mp hy
  exact key 3 x (Nat.le_refl _) (h x hx) y hy
/-- no pair of the row parts wrongly -/
def Good (p0 p1 p2 : Int × Int) (m : List Int) : Prop := Adj (okp p0 256) (un p1 257 (un p2 258 m)) ∧ Adj (okp p1 257) (un p2 258 m) ∧ Adj (okp p2 258) m
theorem red_sym {p : Int × Int} {f : Nat} {l : List Int} (h : ∀ x ∈ l, Sym f x) : ∀ x ∈ red p (256 + (f : Int)) l, Sym (f + 1) x := by
  intro x hx
  rcases red_mem _ l (Nat.le_refl _) x hx with rfl | hx
  · exact .inr (by omega)
  · exact (h x hx).mono (by omega)
theorem not_sym {f : Nat} {l : List Int} (h : ∀ x ∈ l, Sym f x) : (256 + (f : Int)) ∉ l := fun hm => by
  have := (h _ hm).le
  omega
theorem W3_sym {l : List Int} (h : ∀ x ∈ l, Leaf x) : ∀ x ∈ W3 p0 p1 p2 l, Sym 3 x :=
  red_sym (f := 2) (red_sym (f := 1) (red_sym (f := 0) fun x hx => .inl (h x hx)))
theorem un_W3 {l : List Int} (h : ∀ x ∈ l, Leaf x) : un p2 258 (W3 p0 p1 p2 l) = red p1 257 (red p0 256 l) ∧ un p1 257 (red p1 257 (red p0 256 l)) = red p0 256 l ∧ un p0 256 (red p0 256 l) = l := by
  have h0 : ∀ x ∈ l, Sym 0 x := fun x hx => .inl (h x hx)
  have h1 : ∀ x ∈ red p0 256 l, Sym 1 x := red_sym (f := 0) h0
  have h2 : ∀ x ∈ red p1 257 (red p0 256 l), Sym 2 x := red_sym (f := 1) h1
  exact ⟨un_red _ _ (Nat.le_refl _) (not_sym (f := 2) h2), un_red _ _ (Nat.le_refl _) (not_sym (f := 1) h1), un_red _ _ (Nat.le_refl _) (not_sym (f := 0) h0)⟩
theorem un3_W3 {l : List Int} (h : ∀ x ∈ l, Leaf x) : un3 p0 p1 p2 (W3 p0 p1 p2 l) = l := by
  obtain ⟨h1, h2, h3⟩ := un_W3 (p0 := p0) (p1 := p1) (p2 := p2) h
  unfold un3
  rw [h1, h2, h3]
theorem good_iff (O : Ok3 p0 p1 p2) {m : List Int} (hm : ∀ x ∈ m, Sym 3 x) : W3 p0 p1 p2 (lv3 p0 p1 p2 m) = m ↔ Good p0 p1 p2 m := by
  have hl := lv3_leaf O hm
  have e := un3_lv O hm
  have s0 := O.a0.le
  have s1 := O.a1.le
  have s2 := O.a2.le
  unfold Good
  rw [← red_un (p := p0) (c := 256) (by omega), ← red_un (p := p1) (c := 257) (by omega), ← red_un (p := p2) (c := 258) (by omega)]
  have e' : un p0 256 (un p1 257 (un p2 258 m)) = lv3 p0 p1 p2 m := e
  rw [e']
  obtain ⟨h1, h2, h3⟩ := un_W3 (p0 := p0) (p1 := p1) (p2 := p2) hl
  refine ⟨fun h => ?_, fun ⟨g0, g1, g2⟩ => ?_⟩
  · rw [h] at h1
    rw [← h1] at h2
    refine ⟨h2.symm, ?_, ?_⟩
    · rw [h2]; exact h1.symm
    · rw [h1]; exact h
  · unfold W3
    rw [g0, g1, g2]
theorem good_infix {A M C : List Int} (h : Good p0 p1 p2 (A ++ M ++ C)) : Good p0 p1 p2 M := by
  obtain ⟨h0, h1, h2⟩ := h
  rw [un_append, un_append, un_append, un_append] at h0
  rw [un_append, un_append] at h1
  exact ⟨adj_infix h0, adj_infix h1, adj_infix h2⟩
theorem good_mid {A M C : List Int} (hM : M ≠ []) : Good p0 p1 p2 (A ++ M ++ C) ↔ Good p0 p1 p2 (A ++ M) ∧ Good p0 p1 p2 (M ++ C) := by
  unfold Good
  simp only [un_append]
  rw [adj_mid (un_ne (un_ne hM)), adj_mid (un_ne hM), adj_mid hM]
  exact ⟨fun ⟨⟨a, b⟩, ⟨c, d⟩, ⟨e, f⟩⟩ => ⟨⟨a, c, e⟩, ⟨b, d, f⟩⟩, fun ⟨⟨a, c, e⟩, ⟨b, d, f⟩⟩ => ⟨⟨a, b⟩, ⟨c, d⟩, ⟨e, f⟩⟩⟩
theorem good4 {a b c d : Int} : Good p0 p1 p2 [a, b, c, d] ↔ Good p0 p1 p2 [a, b] ∧ Good p0 p1 p2 [b, c] ∧ Good p0 p1 p2 [c, d] := by
  have h1 := good_mid (p0 := p0) (p1 := p1) (p2 := p2) (A := [a]) (M := [b]) (C := [c, d]) (by simp)
  have h2 := good_mid (p0 := p0) (p1 := p1) (p2 := p2) (A := [b]) (M := [c]) (C := [d]) (by simp)
  exact h1.trans (and_congr Iff.rfl h2)
end
end Mine
end
/-! ## P7 -/
section
namespace Mine
def fitL (rs : List (Int × Int)) (row : List Int) (k : Nat) : List Int := expand rs 3 ((row[k]?).getD 0) ++ expand rs 3 ((row[k + 1]?).getD 0)
def fitB (rs : List (Int × Int)) (row : List Int) (k : Nat) : Bool := decide (written rs (fitL rs row k) = (row.drop k).take 2)
def pairL (parts : List (List Int)) (k : Nat) : List Int := (parts[k]?).getD [] ++ (parts[k + 1]?).getD []
section
variable {p0 p1 p2 : Int × Int}
theorem expand_ne (O : Ok3 p0 p1 p2) {x : Int} (h : Sym 3 x) : expand [p0, p1, p2] 3 x ≠ [] := by
  rw [← ex3 O h]
  exact un_ne (un_ne (un1_ne _ _ _))
theorem lv_len (rs : List (Int × Int)) : ∀ m : List Int, (m.flatMap (expand rs 3)).length ≤ 8 * m.length
  | [] => by simp
  | x :: r => by
    have h1 := expand_length rs 3 x
    have h2 := lv_len rs r
    simp only [List.flatMap_cons, List.length_append, List.length_cons]; omega
theorem pair_good (O : Ok3 p0 p1 p2) {a b : Int} (ha : Sym 3 a) (hb : Sym 3 b) : written [p0, p1, p2] (expand [p0, p1, p2] 3 a ++ expand [p0, p1, p2] 3 b) = [a, b] ↔ Good p0 p1 p2 [a, b] := by
  have h := good_iff O (m := [a, b]) (fun x hx => by simp at hx; rcases hx with rfl | rfl <;> assumption)
  rw [written_W3 O]
  have e : lv3 p0 p1 p2 [a, b] = expand [p0, p1, p2] 3 a ++ expand [p0, p1, p2] 3 b := by simp [lv3]
  rw [e] at h
  exact h
theorem fit_law (O : Ok3 p0 p1 p2) {row : List Int} (hl : row.length = 4) (hs : ∀ x ∈ row, Sym 3 x) :
    decide (written [p0, p1, p2] (row.flatMap (expand [p0, p1, p2] 3)) = row) = !((List.range 3).any fun k => fitB [p0, p1, p2] row k == false) := by
  classical
  match row, hl, hs with
  | [a, b, c, d], _, hs =>
    have ha := hs a (by simp)
    have hb := hs b (by simp)
    have hc := hs c (by simp)
    have hd := hs d (by simp)
    have f0 : fitB [p0, p1, p2] [a, b, c, d] 0 = decide (Good p0 p1 p2 [a, b]) := decide_eq_decide.mpr (pair_good O ha hb)
    have f1 : fitB [p0, p1, p2] [a, b, c, d] 1 = decide (Good p0 p1 p2 [b, c]) := decide_eq_decide.mpr (pair_good O hb hc)
    have f2 : fitB [p0, p1, p2] [a, b, c, d] 2 = decide (Good p0 p1 p2 [c, d]) := decide_eq_decide.mpr (pair_good O hc hd)
    have e : (List.range 3).any (fun k => fitB [p0, p1, p2] [a, b, c, d] k == false) = (fitB [p0, p1, p2] [a, b, c, d] 0 == false || (fitB [p0, p1, p2] [a, b, c, d] 1 == false || (fitB [p0, p1, p2] [a, b, c, d] 2 == false || false))) := by
      rw [show List.range 3 = [0, 1, 2] from rfl]
      simp only [List.any_cons, List.any_nil]
    rw [e, f0, f1, f2]
    have g := good_iff O hs
    have ge : decide (W3 p0 p1 p2 (lv3 p0 p1 p2 [a, b, c, d]) = [a, b, c, d]) = decide (Good p0 p1 p2 [a, b] ∧ Good p0 p1 p2 [b, c] ∧ Good p0 p1 p2 [c, d]) := decide_eq_decide.mpr (g.trans good4)
    rw [written_W3 O, ge]
    by_cases h0 : Good p0 p1 p2 [a, b] <;> by_cases h1 : Good p0 p1 p2 [b, c] <;> by_cases h2 : Good p0 p1 p2 [c, d] <;> simp [h0, h1, h2]
/-- what is told of a row's leaves -/
structure Told (p0 p1 p2 : Int × Int) (ls td : List Int) : Prop where
  sym : ∀ n ∈ td, Sym 3 n
  ne : td ≠ []
  len : td.length ≤ ls.length
  back : ls = (td.map (expand [p0, p1, p2] 3)).flatten
  ex : ∀ n ∈ td, expand [p0, p1, p2] 3 n ≠ []
  one : (td.map (expand [p0, p1, p2] 3)).map (written [p0, p1, p2]) = td.map fun n => [n]
  two : ((List.range ((td.map (expand [p0, p1, p2] 3)).length - 1)).map fun k => written [p0, p1, p2] (pairL (td.map (expand [p0, p1, p2] 3)) k)) = (List.range (td.length - 1)).map fun k => (td.drop k).take 2
theorem told_law (O : Ok3 p0 p1 p2) {ls : List Int} (hl : ∀ x ∈ ls, Leaf x) (hne : ls ≠ []) : Told p0 p1 p2 ls (written [p0, p1, p2] ls) := by
  have hs : ∀ n ∈ written [p0, p1, p2] ls, Sym 3 n := by rw [written_W3 O]; exact W3_sym hl
  have hb : lv3 p0 p1 p2 (written [p0, p1, p2] ls) = ls := by
    rw [← un3_lv O hs, written_W3 O]; exact un3_W3 hl
  have hg : Good p0 p1 p2 (written [p0, p1, p2] ls) := by
    refine (good_iff O hs).mp ?_
    rw [hb, written_W3 O]
  have hlen : (written [p0, p1, p2] ls).length ≤ ls.length := wr_length _ _ _
  have hnn : written [p0, p1, p2] ls ≠ [] := by rw [written_W3 O]; exact red_ne (red_ne (red_ne hne))
  generalize written [p0, p1, p2] ls = td at *
  refine ⟨hs, hnn, hlen, by rw [← List.flatMap_def]; exact hb.symm, fun n hn => expand_ne O (hs n hn), ?_, ?_⟩
  · rw [List.map_map]
    refine List.map_congr_left fun n hn => ?_
    obtain ⟨k, hk⟩ := List.mem_iff_getElem?.mp hn
    obtain ⟨hkl, rfl⟩ := List.getElem?_eq_some_iff.mp hk
    have e : td = td.take k ++ [td[k]] ++ td.drop (k + 1) := by
      rw [List.append_assoc, List.singleton_append, List.getElem_cons_drop, List.take_append_drop]
    have hg1 : Good p0 p1 p2 [td[k]] := good_infix (A := td.take k) (C := td.drop (k + 1)) (by rw [← e]; exact hg)
    have h := (good_iff O (m := [td[k]]) (fun x hx => by rw [List.mem_singleton.mp hx]; exact hs _ hn)).mpr hg1
    show written [p0, p1, p2] (expand [p0, p1, p2] 3 td[k]) = [td[k]]
    rw [written_W3 O]
    simpa [lv3] using h
  · rw [List.length_map]
    refine List.map_congr_left fun k hk => ?_
    have hkl := List.mem_range.mp hk
    obtain ⟨x, hx⟩ : ∃ x, td[k]? = some x := ⟨_, List.getElem?_eq_getElem (by omega)⟩
    obtain ⟨y, hy⟩ : ∃ y, td[k + 1]? = some y := ⟨_, List.getElem?_eq_getElem (by omega)⟩
    have e := split_at hx hy
    have hg2 : Good p0 p1 p2 [x, y] := good_infix (A := td.take k) (C := td.drop (k + 2)) (by
      have e' : td.take k ++ [x, y] ++ td.drop (k + 2) = td := by rw [List.append_assoc]; exact e.symm
      rw [e']; exact hg)
    have h2 := (pair_good O (hs x (List.mem_of_getElem? hx)) (hs y (List.mem_of_getElem? hy))).mpr hg2
    have ep : pairL (td.map (expand [p0, p1, p2] 3)) k = expand [p0, p1, p2] 3 x ++ expand [p0, p1, p2] 3 y := by
      unfold pairL
      rw [List.getElem?_map, List.getElem?_map, hx, hy]; rfl
    have ed : (td.drop k).take 2 = [x, y] := by
      have h1 : k < td.length := (List.getElem?_eq_some_iff.mp hx).1
      have h3 : k + 1 < td.length := (List.getElem?_eq_some_iff.mp hy).1
      obtain ⟨_, ex⟩ := List.getElem?_eq_some_iff.mp hx
      obtain ⟨_, ey⟩ := List.getElem?_eq_some_iff.mp hy
      rw [← List.getElem_cons_drop (h := h1), ← List.getElem_cons_drop (h := h3), ex, ey]
      simp
    rw [ep, ed, h2]
end
end Mine
end
/-! ## F0 -/
section
set_option maxRecDepth 100000
set_option maxHeartbeats 4000000
open PySem PySem.Calls PySem.W PyProof.Rows
namespace Mine

/-- the k-th row of the text, as a def -/
def defAt (k : Nat) : DefRec := match PySem.Challenge.pw_wc0001_01.main.body[k]? with
  | some (.FunctionDef n a b _ _ _ sc _ _ pos) => ⟨n, a, b, sc, pos⟩
  | _ => ⟨Str.empty, ⟨[], [], none, [], [], none, []⟩, [], { kind := .function, names := [], isGenerator := false, isCoroutine := false, more := [] }, default⟩

def builtinsUsed : List Str := ["enumerate", "chr", "ord", "len", "max", "min", "zip", "range", "sum"]
def defsUsed : List Nat := [2, 4, 7, 9, 10, 11, 12, 13, 14, 15]

structure Wd (mg mb : Str → Option Value) (h : Heap) : Prop where
  g : h.Ns mainGlobals mg
  b : h.Ns builtinsNs mb
  nolimit : h.NoLimit
  fn : ∀ k ∈ defsUsed, ∃ a o pm code doc, mg (defAt k).name = some (.ref a) ∧ h.get? a = some o ∧
    o.data = .func (docDef (defAt k).name (defAt k).params (defAt k).body (defAt k).scope pm code doc) ∧ h.CodeRec code (defAt k).name
  bi : ∀ x ∈ builtinsUsed, mg x = none ∧ mb x = bootBuiltins x
  nt : ∃ t, mg "NT_OFFSET" = some (.int 256 t)
  cm : ∃ t, mg "CHAR_MAX" = some (.int 127 t)

theorem Wd.keeps {mg mb : Str → Option Value} {h h' : Heap} (W : Wd mg mb h) (k : ∀ b o, h.get? b = some o → h'.get? b = some o) : Wd mg mb h' where
  g := W.g.keeps k
  b := W.b.keeps k
  nolimit := W.nolimit.keeps k
  fn := fun i hi => let ⟨a, o, pm, code, doc, h1, h2, h3, h4⟩ := W.fn i hi; ⟨a, o, pm, code, doc, h1, k _ _ h2, h3, h4.keeps k⟩
  bi := W.bi
  nt := W.nt
  cm := W.cm

def LocAt (m : Str → Option Value) (names : List Str) (lv : List (Option Value)) : Prop :=
  ∀ (i : Nat) (x : Str) (v : Value), names[i]? = some x → lv[i]? = some (some v) → m x = some v
theorem LocAt.set {m : Str → Option Value} {names : List Str} {lv : List (Option Value)} (H : LocAt m names lv) (nd : names.Nodup) {i : Nat} {x : Str} (hi : names[i]? = some x) (v : Value) :
    LocAt (fun y => if y = x then some v else m y) names (lv.set i (some v)) := by
  intro j y u hj hu
  by_cases e : i = j
  · subst e
    rw [hi] at hj; cases hj
    show (if x = x then some v else m x) = some u
    rw [if_pos rfl]
    rw [List.getElem?_set] at hu
    simp only [if_true] at hu
    split at hu
    · exact Option.some.inj hu
    · cases hu
  · have hne : y ≠ x := by
      rintro rfl
      obtain ⟨li, ei⟩ := List.getElem?_eq_some_iff.mp hi
      obtain ⟨lj, ej⟩ := List.getElem?_eq_some_iff.mp hj
      exact e ((List.getElem_inj nd).mp (ei.trans ej.symm))
    show (if y = x then some v else m y) = some u
    rw [if_neg hne]
    rw [List.getElem?_set_ne e] at hu
    exact H j y u hj hu
theorem LocAt.weak {m : Str → Option Value} {names : List Str} {lv lv' : List (Option Value)} (H : LocAt m names lv) (hw : ∀ (i : Nat) (v : Value), lv'[i]? = some (some v) → lv[i]? = some (some v)) : LocAt m names lv' :=
  fun i x v hi hv => H i x v hi (hw i v hv)

abbrev Th := Obj → Prop
def At (h : Heap) (a : Addr) (P : Th) : Prop := ∃ o, h.get? a = some o ∧ P o
def nsP (names : List Str) (lv : List (Option Value)) : Th := fun o => ∃ m es ep, o.data = .dict es ep ∧ StrKeys es ∧ (∀ name, nsFind es name = m name) ∧ LocAt m names lv
def cellP (v : Option Value) : Th := fun o => o.data = .cell v
def listP (xs : List Value) : Th := fun o => o.cls = .type "list" ∧ o.dict = none ∧ ∃ n, o.data = .seq xs.toArray n
def tupP (xs : List Value) : Th := fun o => o.cls = .type "tuple" ∧ ∃ n, o.data = .seq xs.toArray n
def litP (l : Addr) (i : Nat) : Th := fun o => o.cls = .type "list_iterator" ∧ o.data = .fields #[.ref l, .int i 0]
def anyP : Th := fun _ => True

theorem At.isList {h : Heap} {a : Addr} {xs : List Value} (x : At h a (listP xs)) : h.IsList a xs.toArray := let ⟨o, ho, h1, _, h3⟩ := x; ⟨o, ho, h1, h3⟩
theorem At.plain {h : Heap} {a : Addr} {xs : List Value} (x : At h a (listP xs)) : PlainL h a xs.toArray := let ⟨o, ho, h1, h2, n, h3⟩ := x; ⟨o, n, ho, h1, h2, h3⟩
theorem At.of_plain {h : Heap} {a : Addr} {xs : List Value} (x : PlainL h a xs.toArray) : At h a (listP xs) := let ⟨o, n, ho, h1, h2, h3⟩ := x; ⟨o, ho, h1, h2, n, h3⟩
theorem At.isTup {h : Heap} {a : Addr} {xs : List Value} (x : At h a (tupP xs)) : h.IsTuple a xs.toArray := x
theorem At.isCell {h : Heap} {a : Addr} {v : Option Value} (x : At h a (cellP v)) : h.IsCell a v := x
theorem At.isIter {h : Heap} {a l : Addr} {i : Nat} (x : At h a (litP l i)) : h.IsListIter a l i := x
theorem At.ns {h : Heap} {a : Addr} {names : List Str} {lv : List (Option Value)} (x : At h a (nsP names lv)) : ∃ m, h.Ns a m ∧ LocAt m names lv :=
  let ⟨o, ho, m, es, ep, h1, h2, h3, h4⟩ := x; ⟨m, ⟨o, es, ep, ho, h1, h2, h3⟩, h4⟩
theorem At.of_ns {h : Heap} {a : Addr} {m : Str → Option Value} {names : List Str} {lv : List (Option Value)} (x : h.Ns a m) (y : LocAt m names lv) : At h a (nsP names lv) :=
  let ⟨o, es, ep, ho, h1, h2, h3⟩ := x; ⟨o, ho, m, es, ep, h1, h2, h3, y⟩
theorem At.keep {h h' : Heap} {a : Addr} {P : Th} (x : At h a P) (k : ∀ o, h.get? a = some o → h'.get? a = some o) : At h' a P := let ⟨o, ho, hp⟩ := x; ⟨o, k o ho, hp⟩
theorem At.weak {h : Heap} {a : Addr} {P P' : Th} (x : At h a P) (k : ∀ o, P o → P' o) : At h a P' := let ⟨o, ho, hp⟩ := x; ⟨o, ho, k o hp⟩

abbrev Ob := List (Addr × Th)

structure St (mg mb : Str → Option Value) (B : Addr → Obj → Prop) (h : Heap) (ob : Ob) : Prop where
  wd : ∃ h₁, Wd mg mb h₁ ∧ ∀ b o, h₁.get? b = some o → B b o
  keep : ∀ b o, B b o → h.get? b = some o
  own : ∀ p ∈ ob, At h p.1 p.2 ∧ ∀ o, ¬ B p.1 o
  dis : (ob.map (·.1)).Nodup

section
variable {mg mb : Str → Option Value} {B : Addr → Obj → Prop} {h h' : Heap} {ob : Ob}
theorem St.w (S : St mg mb B h ob) : Wd mg mb h := let ⟨_, W, k⟩ := S.wd; W.keeps fun b o e => S.keep b o (k b o e)
theorem St.at (S : St mg mb B h ob) (i : Nat) {a : Addr} {P : Th} (hi : ob[i]? = some (a, P)) : At h a P := (S.own _ (List.mem_of_getElem? hi)).1
theorem St.grow (S : St mg mb B h ob) (k : ∀ b o, h.get? b = some o → h'.get? b = some o) : St mg mb B h' ob :=
  ⟨S.wd, fun b o e => k b o (S.keep b o e), fun p hp => ⟨(S.own p hp).1.keep fun o => k _ o, (S.own p hp).2⟩, S.dis⟩
theorem St.add (S : St mg mb B h ob) {a : Addr} {P : Th} (k : ∀ b o, h.get? b = some o → h'.get? b = some o) (x : At h' a P) (hf : h.get? a = none) : St mg mb B h' (ob ++ [(a, P)]) := by
  refine ⟨S.wd, fun b o e => k b o (S.keep b o e), fun p hp => ?_, ?_⟩
  · rcases List.mem_append.mp hp with hp | hp
    · exact ⟨(S.own p hp).1.keep fun o => k _ o, (S.own p hp).2⟩
    · cases List.mem_singleton.mp hp
      refine ⟨x, fun o e => ?_⟩
      have := S.keep _ _ e
      rw [hf] at this; cases this
  · rw [List.map_append, List.nodup_append]
    refine ⟨S.dis, (by simp), fun b hb c hc => ?_⟩
    obtain ⟨p, hp, rfl⟩ := List.mem_map.mp hb
    rw [List.mem_singleton.mp hc]
    rintro e
    obtain ⟨o, ho, _⟩ := (S.own p hp).1
    rw [e, hf] at ho; cases ho
theorem St.push (S : St mg mb B h ob) {o : Obj} (P : Th) (hp : P o) (hf : o.isFreed = false := by rfl) : St mg mb B (h.push o) (ob ++ [(h.objs.size, P)]) := by
  refine S.add (fun b o' e => Heap.get?_push_of_some _ e) ⟨o, Heap.get?_push_size _ hf, hp⟩ ?_
  cases e : h.get? h.objs.size with
  | none => rfl
  | some o' => exact absurd (Heap.lt_size e) (Nat.lt_irrefl _)
theorem St.upd (S : St mg mb B h ob) (i : Nat) {a : Addr} {P P' : Th} (hi : ob[i]? = some (a, P)) (k : ∀ b o, b ≠ a → h.get? b = some o → h'.get? b = some o) (x : At h' a P') : St mg mb B h' (ob.set i (a, P')) := by
  obtain ⟨hl, he⟩ := List.getElem?_eq_some_iff.mp hi
  have hm : (a, P) ∈ ob := List.mem_of_getElem? hi
  have em : (ob.set i (a, P')).map (·.1) = ob.map (·.1) := by
    rw [List.map_set]
    refine List.ext_getElem? fun j => ?_
    rw [List.getElem?_set]
    by_cases e : i = j
    · subst e
      simp [hl, he]
    · simp [e]
  refine ⟨S.wd, fun b o e => k b o ?_ (S.keep b o e), fun p hp => ?_, by rw [em]; exact S.dis⟩
  · rintro rfl; exact (S.own _ hm).2 o e
  · obtain ⟨j, hj⟩ := List.mem_iff_getElem?.mp hp
    rw [List.getElem?_set] at hj
    by_cases e : i = j
    · subst e
      rw [if_pos rfl, if_pos hl] at hj
      cases hj; exact ⟨x, (S.own _ hm).2⟩
    · rw [if_neg e] at hj
      have hp' := List.mem_of_getElem? hj
      refine ⟨(S.own p hp').1.keep fun o => k _ o ?_, (S.own p hp').2⟩
      intro e'
      obtain ⟨lj, ej⟩ := List.getElem?_eq_some_iff.mp hj
      refine e ((List.getElem_inj (xs := ob.map (fun p => p.1)) (h₀ := by simpa using hl) (h₁ := by simpa using lj) S.dis).mp ?_)
      simp only [List.getElem_map, he, ej, e']
theorem St.sub (S : St mg mb B h ob) {ob' : Ob} (hs : ob'.Sublist ob) : St mg mb B h ob' :=
  ⟨S.wd, S.keep, fun p hp => S.own p (hs.subset hp), S.dis.sublist (hs.map _)⟩
theorem St.same {a : Addr} (S : St mg mb B h ob) (i : Nat) {P P' : Th} (hi : ob[i]? = some (a, P)) (k : Heap.SameBut a h h') (x : At h' a P') : St mg mb B h' (ob.set i (a, P')) :=
  S.upd i hi (fun b o hb e => (k.2 b hb).trans e) x
end

structure Ev (env : Env) (L : Addr) (names : List Str) (cells : List (Str × Addr)) (globs : List Str) : Prop where
  kind : env.scope.kind = .function
  loc : env.locals = L
  gl : env.globals = mainGlobals
  bi : env.builtins = builtinsNs
  kl : ∀ x ∈ names, env.kindOf x = some .local
  kc : ∀ p ∈ cells, env.kindOf p.1 = some .cell ∧ env.cells.lookup p.1 = some p.2
  kg : ∀ x ∈ globs, env.kindOf x = some .globalImplicit
  nd : names.Nodup

section
variable {prog : Program} {w : World} {A : Around} {E : Value → Shared → Prop} {s : Shared} {mg mb : Str → Option Value} {B : Addr → Obj → Prop} {ob : Ob} {env : Env} {L : Addr} {names : List Str} {cells : List (Str × Addr)} {globs : List Str}

theorem ldl (j i : Nat) {x : Str} {pos : Pos} {lv : List (Option Value)} {v : Value} {Q : Value → Shared → Prop} (S : St mg mb B s.heap ob) (V : Ev env L names cells globs) (hj : ob[j]? = some (L, nsP names lv))
    (hi : names[i]? = some x) (hv : lv[i]? = some (some v)) (h : Q v s) (hd : (x == ("__debug__" : Str)) = false := by decide) : wpAny (model prog w) A (eval (.Name x pos) env) Q E s := by
  obtain ⟨m, hm, hl⟩ := (S.at j hj).ns
  rw [← V.loc] at hm
  exact wpAny_Name (wpAny_loadName_local V.kind (V.kl x (List.mem_of_getElem? hi)) hm (hl i x v hi hv) h) hd
theorem ldl' (j i : Nat) {x : Str} {lv : List (Option Value)} {v : Value} {Q : Value → Shared → Prop} (S : St mg mb B s.heap ob) (V : Ev env L names cells globs) (hj : ob[j]? = some (L, nsP names lv))
    (hi : names[i]? = some x) (hv : lv[i]? = some (some v)) (h : Q v s) : wpAny (model prog w) A (loadName env x) Q E s := by
  obtain ⟨m, hm, hl⟩ := (S.at j hj).ns
  rw [← V.loc] at hm
  exact wpAny_loadName_local V.kind (V.kl x (List.mem_of_getElem? hi)) hm (hl i x v hi hv) h
theorem ldc (j i : Nat) {x : Str} {c : Addr} {pos : Pos} {v : Value} {Q : Value → Shared → Prop} (S : St mg mb B s.heap ob) (V : Ev env L names cells globs) (hi : cells[i]? = some (x, c)) (hj : ob[j]? = some (c, cellP (some v)))
    (h : Q v s) (hd : (x == ("__debug__" : Str)) = false := by decide) : wpAny (model prog w) A (eval (.Name x pos) env) Q E s := by
  have k := V.kc _ (List.mem_of_getElem? hi)
  exact wpAny_Name (wpAny_loadName_cell V.kind k.1 k.2 (S.at j hj).isCell h) hd
theorem ldg {x : Str} {pos : Pos} {v : Value} {Q : Value → Shared → Prop} (S : St mg mb B s.heap ob) (V : Ev env L names cells globs) (hx : x ∈ globs) (hv : mg x = some v) (h : Q v s) (hd : (x == ("__debug__" : Str)) = false := by decide) :
    wpAny (model prog w) A (eval (.Name x pos) env) Q E s :=
  Name_function_global V.kind (V.kg x hx) (loadGlobal_global (env := env) (by rw [V.gl]; exact S.w.g) hv h) hd
theorem ldb {x : Str} {pos : Pos} {v : Value} {Q : Value → Shared → Prop} (S : St mg mb B s.heap ob) (V : Ev env L names cells globs) (hx : x ∈ globs) (hu : x ∈ builtinsUsed) (hv : bootBuiltins x = some v) (h : Q v s) (hd : (x == ("__debug__" : Str)) = false := by decide) :
    wpAny (model prog w) A (eval (.Name x pos) env) Q E s :=
  Name_function_global V.kind (V.kg x hx) (loadGlobal_builtin (env := env) (by rw [V.gl]; exact S.w.g) (S.w.bi x hu).1 (by rw [V.bi]; exact S.w.b) ((S.w.bi x hu).2.trans hv) h) hd
theorem stl (j i : Nat) {x : Str} {lv : List (Option Value)} {v : Value} {Q : Unit → Shared → Prop} (S : St mg mb B s.heap ob) (V : Ev env L names cells globs) (hj : ob[j]? = some (L, nsP names lv)) (hi : names[i]? = some x)
    (h : ∀ h', St mg mb B h' (ob.set j (L, nsP names (lv.set i (some v)))) → Q () { s with heap := h', toks := s.toks + 1 }) : wpAny (model prog w) A (storeName env x v) Q E s := by
  obtain ⟨m, hm, hl⟩ := (S.at j hj).ns
  rw [← V.loc] at hm
  refine wpAny_storeName_local (V.kl x (List.mem_of_getElem? hi)) hm (fun h' hn hs => h h' ?_) (by rw [V.kind]; rfl)
  rw [V.loc] at hn hs
  exact S.same j hj hs (At.of_ns hn (hl.set V.nd hi v))
theorem stc (j i : Nat) {x : Str} {c : Addr} {v₀ : Option Value} {v : Value} {Q : Unit → Shared → Prop} (S : St mg mb B s.heap ob) (V : Ev env L names cells globs) (hi : cells[i]? = some (x, c)) (hj : ob[j]? = some (c, cellP v₀))
    (h : ∀ h', St mg mb B h' (ob.set j (c, cellP (some v))) → Q () { s with heap := h' }) : wpAny (model prog w) A (storeName env x v) Q E s := by
  have k := V.kc _ (List.mem_of_getElem? hi)
  exact wpAny_storeName_cell V.kind k.1 k.2 (S.at j hj).isCell fun h' hc hs => h h' (S.same j hj hs hc)
end

structure Room (A : Around) (d u : Nat) : Prop where
  hh : A.handled = none
  hd : A.depth + d < recursionLimit
  hu : A.units + u < cLine
theorem Room.in1 {A : Around} {d u : Nat} (R : Room A d (u + 1)) : Room A.in1 d u := ⟨R.hh, R.hd, by have := R.hu; show A.units + 1 + u < _; omega⟩
theorem Room.deeper {A : Around} {d u : Nat} (R : Room A (d + 1) (u + 3)) (env : Env) : Room (A.deeper env) d u := ⟨R.hh, by have := R.hd; show A.depth + 1 + d < _; omega, by have := R.hu; show A.units + 3 + u < _; omega⟩
theorem Room.le {A : Around} {d u d' u' : Nat} (R : Room A d u) (h1 : d' ≤ d) (h2 : u' ≤ u) : Room A d' u' := ⟨R.hh, by have := R.hd; omega, by have := R.hu; omega⟩

def Side (s s' : Shared) : Prop := s'.os = s.os ∧ (∀ (i : Nat) (x : GenState), s.gens[i]? = some x → s'.gens[i]? = some x) ∧ (AllBare s.gens → AllBare s'.gens)
theorem Side.refl (s : Shared) : Side s s := ⟨rfl, fun _ _ e => e, id⟩
theorem Side.trans {s s' s'' : Shared} (x : Side s s') (y : Side s' s'') : Side s s'' := ⟨y.1.trans x.1, fun i g e => y.2.1 i g (x.2.1 i g e), fun e => y.2.2 (x.2.2 e)⟩
structure Goes (s s' : Shared) : Prop where
  keep : ∀ b o, s.heap.get? b = some o → s'.heap.get? b = some o
  side : Side s s'
theorem Goes.refl (s : Shared) : Goes s s := ⟨fun _ _ e => e, Side.refl s⟩
theorem Goes.trans {s s' s'' : Shared} (x : Goes s s') (y : Goes s' s'') : Goes s s'' := ⟨fun b o e => y.keep b o (x.keep b o e), x.side.trans y.side⟩

def retOf : Flow → Value
  | .ret v => v
  | _ => .none

theorem lookup_of_mem {l : List (Str × Value)} (nd : (l.map (·.1)).Nodup) {x : Str} {v : Value} (h : (x, v) ∈ l) : l.lookup x = some v := by
  induction l with
  | nil => cases h
  | cons p r ih =>
    obtain ⟨y, u⟩ := p
    rw [List.map_cons, List.nodup_cons] at nd
    rcases List.mem_cons.mp h with e | hm
    · cases e
      simp
    · have hne : ¬ x = y := by
        rintro rfl
        exact nd.1 (List.mem_map.mpr ⟨_, hm, rfl⟩)
      rw [List.lookup_cons]
      have : (x == y) = false := by simpa using hne
      rw [this]
      exact ih nd.2 hm
theorem locAt_zip {ps rest : List Str} {args : List Value} (hl : args.length = ps.length) (nd : (ps ++ rest).Nodup) :
    LocAt (fun x => (ps.zip args).reverse.lookup x) (ps ++ rest) (args.map some ++ List.replicate rest.length none) := by
  intro i x v hi hv
  have hlt : i < ps.length := by
    apply Nat.lt_of_not_le
    intro hge
    rw [List.getElem?_append_right (by simpa [hl] using hge)] at hv
    simp only [List.getElem?_replicate] at hv
    split at hv <;> simp_all
  rw [List.getElem?_append_left hlt] at hi
  rw [List.getElem?_append_left (by simpa [hl] using hlt), List.getElem?_map] at hv
  have hv' : args[i]? = some v := by
    cases e : args[i]? with
    | none => rw [e] at hv; cases hv
    | some u => rw [e] at hv; cases hv; rfl
  refine lookup_of_mem ?_ ?_
  · rw [List.map_reverse, List.map_fst_zip (Nat.le_of_eq hl.symm)]
    exact List.pairwise_reverse.mpr ((List.nodup_append.mp nd).1.imp fun h e => h e.symm)
  · rw [List.mem_reverse]
    refine List.mem_of_getElem? (i := i) ?_
    rw [List.getElem?_zip_eq_some]
    exact ⟨hi, hv'⟩

def evOk (sc : Scope) (names globs : List Str) : Bool :=
  names.all (fun x => decide (sc.names.lookup x = some .local)) && globs.all (fun x => decide (sc.names.lookup x = some .globalImplicit)) && decide names.Nodup && decide (sc.kind = .function)
theorem ev_of {nm : Str} {sc : Scope} {L a : Addr} {cd : Value} {names globs : List Str} (h : evOk sc names globs = true) : Ev (envOf nm sc L a cd) L names [] globs := by
  simp only [evOk, Bool.and_eq_true, decide_eq_true_eq, List.all_eq_true] at h
  obtain ⟨⟨⟨h1, h2⟩, h3⟩, h4⟩ := h
  exact ⟨h4, rfl, rfl, rfl, fun x hx => h1 x hx, fun p hp => (nomatch hp), fun x hx => h2 x hx, h3⟩

section
variable {prog : Program} {w : World} {A : Around} {s : Shared} {mg mb : Str → Option Value}
theorem enter {R : Result → Shared → Prop} {d u : Nat} (k : Nat) (hk : k ∈ defsUsed) {a : Addr} (ps rest globs : List Str) {args : List Value} {lv : List (Option Value)} (W : Wd mg mb s.heap) (ha : mg (defAt k).name = some (.ref a)) (Rm : Room A (d + 1) (u + 3))
    (ok : evOk (defAt k).scope (ps ++ rest) globs = true)
    (hbind : ∀ pm code doc, bindArgs (docDef (defAt k).name (defAt k).params (defAt k).body (defAt k).scope pm code doc) ⟨args, []⟩ = pure (ps.zip args))
    (hl : args.length = ps.length) (hlv : lv = args.map some ++ List.replicate rest.length none)
    (h : ∀ L h₁ tk env A' E, Ev env L (ps ++ rest) [] globs → Room A' d u → St mg mb (fun b o => s.heap.get? b = some o) h₁ [(L, nsP (ps ++ rest) lv)] →
      wpAny (model prog w) A' (execs (defAt k).body env) (fun f s' => R (.ok (.ret (retOf f))) s') E { s with heap := h₁, toks := tk })
    (hco : (defAt k).scope.isCoroutine = false := by rfl) (hgen : (defAt k).scope.isGenerator = false := by rfl)
    (hcell : ∀ x ∈ (defAt k).scope.names, x.2 ≠ .cell := by decide +kernel) :
    codeAny (model prog w) A (.call (.ref a) ⟨args, []⟩) R s := by
  obtain ⟨a', o, pm, code, doc, h1, h2, h3, h4⟩ := W.fn k hk
  rw [ha] at h1
  cases h1
  have V : ∀ L a cd, Ev (envOf (defAt k).name (defAt k).scope L a cd) L (ps ++ rest) [] globs := fun L a cd => ev_of ok
  refine call_plain (by have := Rm.hd; omega) h2 h3 W.nolimit h4 (hbind pm code doc) (fun x hx => ?_) (fun h₁ F => ?_) hco hgen (V 0 0 .none).kind hcell
  · exact (V 0 0 .none).kl x.1 (List.mem_append_left _ (List.of_mem_zip hx).1)
  · have S : St mg mb (fun b o => s.heap.get? b = some o) h₁ [(s.heap.objs.size, nsP (ps ++ rest) lv)] := by
      refine ⟨⟨_, W, fun b o e => e⟩, F.keep, fun p hp => ?_, (by simp)⟩
      cases List.mem_singleton.mp hp
      refine ⟨At.of_ns F.ns (by rw [hlv]; exact locAt_zip hl (V 0 0 .none).nd), fun o' e => ?_⟩
      exact absurd (Heap.lt_size e) (Nat.lt_irrefl _)
    exact h _ h₁ _ _ _ _ (V _ _ _) (Rm.deeper _) S
end

/-- the call's answer, handed on -/
def RetQ (Q : Value → Shared → Prop) (E : Value → Shared → Prop) : Result → Shared → Prop := fun r s' => match r with | .ok (.ret v) => Q v s' | .ok _ => False | .error e => E e s'

section
variable {prog : Program} {w : World} {A : Around} {E : Value → Shared → Prop} {s : Shared} {mg mb : Str → Option Value} {B : Addr → Obj → Prop} {ob : Ob} {env : Env} {L : Addr} {names : List Str} {cells : List (Str × Addr)} {globs : List Str}
theorem callWith_fn {M : Model} {pos : Pos} {a : Addr} {first : List Value} {args : List (Bool × Sem Value)} {Q : Value → Shared → Prop}
    (h : wpAny M A (evalArgs (.ref a) true args []) (fun x s₁ => (∃ o fd, s₁.heap.get? a = some o ∧ o.data = .func fd) ∧ wpAny M A (call (.ref a) (first ++ x.pos) x.kw) Q E s₁) E s) :
    wpAny M A (callWith pos (.ref a) first args []) Q E s := by
  unfold callWith
  refine wpAny_bind (wpAny_holding (wpAny_mono h (fun x s₁ h₁ => wpAny_bind (wpAny_standAt ?_)) fun _ _ x => x))
  obtain ⟨⟨o, fd, ho, hd⟩, h₁⟩ := h₁
  have tail : ∀ {t : Sem Value}, wpAny M A t Q E s₁ → wpAny M A (t >>= fun r => holding [r] point >>= fun _ => pure r) Q E s₁ :=
    fun ht => wpAny_bind (wpAny_mono ht (fun r s₂ hr => wpAny_bind (wpAny_holding (wpAny_point (wpAny_pure hr)))) fun _ _ x => x)
  cases hs : args.any (·.1) <;> simp only [List.any_nil, Bool.or_false] <;>
    refine wpAny_bind (m := keeperOf (.ref a)) ?_ <;> unfold keeperOf <;>
    refine wpAny_bind (wpAny_load ho ?_) <;> rw [hd] <;> refine wpAny_pure ?_
  ·
    first
      | refine wpAny_ite ?_
      | skip
    split <;> first
      | exact tail h₁
      | exact tail (by unfold callMarked; exact wpAny_keep h₁)
  ·
    first
      | exact tail (by unfold callMarked; exact wpAny_keep h₁)
      | exact tail h₁

/-- two names taken out of a pair -/
theorem asg2 (j i₁ i₂ : Nat) {x y : Str} {px py pos : Pos} {n : Nat} {t : Addr} {v₁ v₂ : Value} {lv : List (Option Value)} {Q : Unit → Shared → Prop} (S : St mg mb B s.heap ob) (V : Ev env L names cells globs) (hh : A.handled = none)
    (ht : s.heap.IsTuple t #[v₁, v₂]) (hj : ob[j]? = some (L, nsP names lv)) (h1 : names[i₁]? = some x) (h2 : names[i₂]? = some y)
    (h : ∀ h' tk, St mg mb B h' (ob.set j (L, nsP names ((lv.set i₁ (some v₁)).set i₂ (some v₂)))) → Q () { s with heap := h', toks := tk }) :
    wpAny (model prog w) A (assign (.Tuple [.Name x px, .Name y py] n pos) env (.ref t)) Q E s := by
  refine wpAny_assign_Tuple hh ht rfl rfl fun h₁ k₁ => ?_
  have S₁ : St mg mb B h₁ ob := S.grow fun b o e => k₁ b o (Nat.ne_of_lt (Heap.lt_size e)) e
  refine wpAny_assignInOrder_more (assign_Name (stl j i₁ S₁ V hj h1 fun h₂ S₂ => ?_))
  have hj' : (ob.set j (L, nsP names (lv.set i₁ (some v₁))))[j]? = some (L, nsP names (lv.set i₁ (some v₁))) := by
    obtain ⟨hl, _⟩ := List.getElem?_eq_some_iff.mp hj
    simp [hl]
  refine wpAny_assignInOrder_more (assign_Name (stl j i₂ S₂ V hj' h2 fun h₃ S₃ => wpAny_assignInOrder_none ?_))
  rw [List.set_set] at S₃
  exact h _ _ S₃

theorem call1 (k : Nat) (hk : k ∈ defsUsed) {x : Str} {e₁ : Expr} {fp pos : Pos} {Q : Value → Shared → Prop} (S : St mg mb B s.heap ob) (V : Ev env L names cells globs) (hn : (defAt k).name = x) (hx : x ∈ globs)
    (h : ∀ a, mg (defAt k).name = some (.ref a) → wpAny (model prog w) A (eval e₁ env) (fun v₁ s₁ => Wd mg mb s₁.heap ∧ codeAny (model prog w) A (.call (.ref a) ⟨[v₁], []⟩) (RetQ Q E) s₁) E s)
    (he : eval (.Call (.Name x fp) [e₁] [] pos) env = (do callWith pos (← eval (.Name x fp) env) [] (backTo pos (starEach [e₁] env)) (backToKw pos (keywordEach [] env))) := by rfl)
    (he₁ : starEach [e₁] env = (false, eval e₁ env) :: starEach [] env := by rfl) (hd : (x == ("__debug__" : Str)) = false := by decide) : wpAny (model prog w) A (eval (.Call (.Name x fp) [e₁] [] pos) env) Q E s := by
  obtain ⟨a, o, pm, code, doc, h1, h2, h3, h4⟩ := S.w.fn k hk
  refine Call_ (ldg S V hx (hn ▸ h1) ?_ hd) he
  rw [he₁]
  refine callWith_fn (evalArgs_plain (spliced_cons (wpAny_mono (h a h1) (fun v₁ s₁ q => spliced_nil ?_) fun _ _ e => e)))
  obtain ⟨a', o', pm', code', doc', g1, g2, g3, g4⟩ := q.1.fn k hk
  rw [h1] at g1; cases g1
  exact ⟨⟨o', _, g2, g3⟩, wpAny_call q.2⟩
theorem call2 (k : Nat) (hk : k ∈ defsUsed) {x : Str} {e₁ e₂ : Expr} {fp pos : Pos} {Q : Value → Shared → Prop} (S : St mg mb B s.heap ob) (V : Ev env L names cells globs) (hn : (defAt k).name = x) (hx : x ∈ globs)
    (h : ∀ a, mg (defAt k).name = some (.ref a) → wpAny (model prog w) A (eval e₁ env) (fun v₁ s₁ => wpAny (model prog w) A (eval e₂ env) (fun v₂ s₂ => Wd mg mb s₂.heap ∧ codeAny (model prog w) A (.call (.ref a) ⟨[v₁, v₂], []⟩) (RetQ Q E) s₂) E s₁) E s)
    (he : eval (.Call (.Name x fp) [e₁, e₂] [] pos) env = (do callWith pos (← eval (.Name x fp) env) [] (backTo pos (starEach [e₁, e₂] env)) (backToKw pos (keywordEach [] env))) := by rfl)
    (he₁ : backTo pos (starEach [e₁, e₂] env) = [(false, eval e₁ env), (false, eval e₂ env)] := by rfl) (hd : (x == ("__debug__" : Str)) = false := by decide) : wpAny (model prog w) A (eval (.Call (.Name x fp) [e₁, e₂] [] pos) env) Q E s := by
  obtain ⟨a, o, pm, code, doc, h1, h2, h3, h4⟩ := S.w.fn k hk
  refine Call_ (ldg S V hx (hn ▸ h1) ?_ hd) he
  rw [he₁]
  refine callWith_fn (evalArgs_plain (spliced_cons (wpAny_mono (h a h1) (fun v₁ s₁ q₁ => spliced_cons (wpAny_mono q₁ (fun v₂ s₂ q => spliced_nil ?_) fun _ _ e => e)) fun _ _ e => e)))
  obtain ⟨a', o', pm', code', doc', g1, g2, g3, g4⟩ := q.1.fn k hk
  rw [h1] at g1; cases g1
  exact ⟨⟨o', _, g2, g3⟩, wpAny_call q.2⟩
/-- a built-in function by name, one argument -/
theorem bcall1 {x : Str} {id : String} {e₁ : Expr} {fp pos : Pos} {Q : Value → Shared → Prop} (S : St mg mb B s.heap ob) (V : Ev env L names cells globs) (hx : x ∈ globs) (hu : x ∈ builtinsUsed) (hv : bootBuiltins x = some (.builtin id))
    (h : wpAny (model prog w) A (eval e₁ env) (fun v₁ s₁ => wpAny (model prog w) A (call (.builtin id) [v₁]) Q E s₁) E s)
    (he : eval (.Call (.Name x fp) [e₁] [] pos) env = (do callWith pos (← eval (.Name x fp) env) [] (backTo pos (starEach [e₁] env)) (backToKw pos (keywordEach [] env))) := by rfl)
    (he₁ : backTo pos (starEach [e₁] env) = [(false, eval e₁ env)] := by rfl) (hd : (x == ("__debug__" : Str)) = false := by decide) : wpAny (model prog w) A (eval (.Call (.Name x fp) [e₁] [] pos) env) Q E s := by
  refine Call_ (ldb S V hx hu hv ?_ hd) he
  rw [he₁]
  exact callWith_builtin rfl (evalArgs_plain (spliced_cons (wpAny_mono h (fun v₁ s₁ q => spliced_nil q) fun _ _ e => e)))
end
end Mine
end
/-! ## F1 -/
section
set_option maxRecDepth 100000
set_option maxHeartbeats 4000000
open PySem PySem.Calls PySem.W PyProof.Rows
namespace Mine
def textOf (ls : List Int) : Str := ⟨(spellAll ls).toArray⟩
theorem textOf_append (a b : List Int) : textOf (a ++ b) = textOf a ++ textOf b := by
  show _ = Str.append _ _
  simp [textOf, Str.append, spellAll_append]

/-- the rules as they lie in the heap: a list of pairs of ints -/
def PairsAt (h : Heap) (l : Addr) (rs : List (Int × Int)) : Prop :=
  ∃ ts : List Addr, h.IsList l (ts.map Value.ref).toArray ∧ ts.length = rs.length ∧ ∀ (i : Nat) (p : Int × Int), rs[i]? = some p → ∃ t u v, ts[i]? = some t ∧ h.IsTuple t #[.int p.1 u, .int p.2 v]
theorem PairsAt.keeps {h h' : Heap} {l : Addr} {rs : List (Int × Int)} (x : PairsAt h l rs) (k : ∀ b o, h.get? b = some o → h'.get? b = some o) : PairsAt h' l rs :=
  let ⟨ts, ⟨o, ho, r⟩, hl, hp⟩ := x
  ⟨ts, ⟨o, k _ _ ho, r⟩, hl, fun i p hi => let ⟨t, u, v, h1, o', ho', r'⟩ := hp i p hi; ⟨t, u, v, h1, o', k _ _ ho', r'⟩⟩

section
variable {prog : Program} {w : World} {A : Around} {s : Shared} {mg mb : Str → Option Value}
theorem isterm {i : Int} {t : Tok} {a : Addr} {R : Result → Shared → Prop} (W : Wd mg mb s.heap) (ha : mg (defAt 2).name = some (.ref a)) (Rm : Room A 1 4)
    (h : ∀ s', Goes s s' → R (.ok (.ret (.bool (decide (i < 256))))) s') : codeAny (model prog w) A (.call (.ref a) ⟨[.int i t], []⟩) R s := by
  refine enter 2 (by decide) ["x"] [] ["NT_OFFSET"] W ha Rm (by decide +kernel) (fun _ _ _ => rfl) rfl rfl ?_
  intro L h₁ tk env A' E V Rm' S
  refine wpAny_execs_cons (wpAny_Return_some (wpAny_Compare1 ?_))
  refine ldl 0 0 S V rfl rfl rfl ?_
  obtain ⟨t', ht'⟩ := W.nt
  refine ldg S V (by decide) ht' ?_
  refine lt_int ?_
  exact h _ ⟨S.keep, Side.refl s⟩

theorem spelt (rs : List (Int × Int)) (hst : Strat rs) (lr : Addr) : ∀ (f : Nat) (A : Around) (s : Shared) (n : Int) (t : Tok) (a : Addr) (R : Result → Shared → Prop), f ≤ rs.length → f ≤ 3 → Sym f n →
    Wd mg mb s.heap → PairsAt s.heap lr rs → mg (defAt 9).name = some (.ref a) → Room A (f + 2) (8 * f + 10) →
    (∀ s' t', Goes s s' → R (.ok (.ret (.str (textOf (expand rs f n)) t'))) s') → codeAny (model prog w) A (.call (.ref a) ⟨[.int n t, .ref lr], []⟩) R s := by
    intro f
    induction f using Nat.strongRecOn with
    | ind f ih =>
    intro A s n t a R hf hf3 hn W hP ha Rm h
    refine enter (d := f + 1) (u := 8 * f + 7) 9 (by decide) ["number", "rules"] ["one", "other"] ["ISTERMINAL", "chr", "_law_spelt"] W ha (Rm.le (by omega) (by omega)) (by decide +kernel) (fun _ _ _ => rfl) rfl rfl ?_
    intro L h₁ tk env A' E V Rm' S
    refine wpAny_execs_cons (wpAny_If (isTrue_plain (call1 2 (by decide) S V rfl (by decide) fun a₂ ha₂ => ?_)))
    refine ldl 0 0 S V rfl rfl rfl ⟨S.w, isterm S.w ha₂ (Rm'.le (by omega) (by omega)) fun s₁ g₁ => ?_⟩
    refine wpAny_truthy_bool ?_
    have S₁ := S.grow g₁.keep
    by_cases hlt : n < 256
    · rw [decide_eq_true hlt]
      simp only [if_true]
      have hlf : Leaf n := hn.elim id fun h => absurd hlt (by omega)
      rw [expand_leaf _ _ hlt] at h
      refine wpAny_execs_cons (wpAny_Return_some (IfExp_ (wpAny_isTrue_Compare1 (ldl 0 0 S₁ V rfl rfl rfl (wpAny_Constant_int (lt_int (wpAny_truthy_bool ?_)))))))
      by_cases h128 : n < 128
      · rw [decide_eq_true h128]
        simp only [if_true]
        refine bcall1 (id := "chr") S₁ V (by decide) (by decide) (by rfl) (ldl 0 0 S₁ V rfl rfl rfl (chr_of_range (by have := hlf.lt; omega) (by omega) ?_))
        have e : (⟨#[n.toNat]⟩ : Str) = textOf [n] := by simp [textOf, spellAll, spellN, h128]
        rw [e]
        exact h _ _ ⟨S₁.keep, g₁.side⟩
      · rw [decide_eq_false h128]
        simp only [Bool.false_eq_true, if_false]
        refine wpAny_BinOp (Constant_str ?_)
        refine bcall1 (id := "chr") S₁ V (by decide) (by decide) (by rfl) (wpAny_BinOp (ldl 0 0 S₁ V rfl rfl rfl (wpAny_Constant_int (sub_int (chr_of_range (by omega) (by omega) ?_)))))
        refine add_str (fun t' tk' => ?_) (by rw [sizeLine_eq]; show 1 + 1 ≤ 16777216; decide)
        have e : (Str.ofString "\\" ++ (⟨#[(n - 128).toNat]⟩ : Str)) = textOf [n] := by
          show Str.append _ _ = _
          have e0 : Str.ofString "\\" = ⟨#[92]⟩ := by decide +kernel
          rw [e0]
          simp [textOf, spellAll, spellN, h128, Str.append]
        rw [e]
        exact h _ _ ⟨S₁.keep, g₁.side⟩
    · rw [decide_eq_false hlt]
      simp only [Bool.false_eq_true, if_false]
      refine wpAny_execs_nil ?_
      obtain ⟨hlo, hhi⟩ : 256 ≤ n ∧ n < 256 + (f : Int) := hn.elim (fun h => absurd h.lt.1 hlt) id
      cases f with
      | zero => omega
      | succ f =>
        obtain ⟨ts, hl, hlen, hp⟩ := hP.keeps S₁.keep
        have hi : (n - 256).toNat < rs.length := by omega
        obtain ⟨p, hpe⟩ : ∃ p, rs[(n - 256).toNat]? = some p := ⟨_, List.getElem?_eq_getElem hi⟩
        obtain ⟨t₁, u₁, v₁, ht₁, htup⟩ := hp _ p hpe
        rw [expand_rule rs f hlt hpe] at h
        obtain ⟨sy1, sy2⟩ := hst _ p hpe
        refine wpAny_execs_cons (Assign_Tuple (Subscript_ (ldl 0 1 S₁ V rfl rfl rfl (wpAny_BinOp (ldl 0 0 S₁ V rfl rfl rfl (wpAny_Constant_int (sub_int ?_)))))))
        refine item_listL hl (by omega) (by omega) (x := .ref t₁) (by rw [List.getElem?_map, ht₁]; rfl) ?_
        refine asg2 0 2 3 S₁ V Rm'.hh htup rfl rfl rfl fun h₃ tk₃ S₃ => ?_
        refine wpAny_execs_cons (wpAny_Return_some (wpAny_BinOp (call2 9 (by decide) S₃ V rfl (by decide) fun a₄ ha₄ => ?_)))
        refine ldl 0 2 S₃ V rfl rfl rfl (ldl 0 1 S₃ V rfl rfl rfl ⟨S₃.w, ?_⟩)
        refine ih f (Nat.lt_succ_self f) _ _ _ _ _ _ (by omega) (by omega) (sy1.mono (by omega)) S₃.w (hP.keeps S₃.keep) ha₄ (Rm'.le (by omega) (by omega)) fun s₅ t₅ g₅ => ?_
        have S₅ := S₃.grow g₅.keep
        refine call2 9 (by decide) S₅ V rfl (by decide) fun a₆ ha₆ => ?_
        refine ldl 0 3 S₅ V rfl rfl rfl (ldl 0 1 S₅ V rfl rfl rfl ⟨S₅.w, ?_⟩)
        refine ih f (Nat.lt_succ_self f) _ _ _ _ _ _ (by omega) (by omega) (sy2.mono (by omega)) S₅.w (hP.keeps S₅.keep) ha₆ (Rm'.le (by omega) (by omega)) fun s₇ t₇ g₇ => ?_
        have S₇ := S₅.grow g₇.keep
        have L1 : ∀ q, (textOf (expand rs f q)).length ≤ 8 := fun q => by
          have h1 := spellAll_length (expand rs f q)
          have h2 := expand_length rs f q
          have h3 : 2 ^ f ≤ 2 ^ 2 := Nat.pow_le_pow_right (by decide) (by omega)
          show ((spellAll (expand rs f q)).toArray).size ≤ 8
          rw [List.size_toArray]; omega
        refine add_str (fun t' tk' => ?_) (by rw [sizeLine_eq]; have h1 := L1 p.1; have h2 := L1 p.2; omega)
        rw [← textOf_append]
        exact h _ _ ⟨S₇.keep, (g₁.side.trans g₅.side).trans g₇.side⟩
end
end Mine
end
/-! ## F2 -/
section
set_option maxRecDepth 100000
set_option maxHeartbeats 4000000
open PySem PySem.Calls PySem.W PyProof.Rows
namespace Mine
abbrev Rl := Addr → Obj → Prop
abbrev Hp (h : Heap) : Rl := fun b o => h.get? b = some o
def Mx (ob : Ob) (h : Heap) : Rl := fun b o => h.get? b = some o ∧ b ∉ ob.map (·.1)
def Nw (s s' : Shared) : Rl := fun b o => s.heap.get? b = none ∧ s'.heap.get? b = some o
def Sub (X Y : Rl) : Prop := ∀ b o, X b o → Y b o
theorem Sub.refl (X : Rl) : Sub X X := fun _ _ e => e
theorem Sub.trans {X Y Z : Rl} (a : Sub X Y) (b : Sub Y Z) : Sub X Z := fun x o e => b x o (a x o e)
def Lst (X : Rl) (a : Addr) (xs : List Value) : Prop := ∃ o, X a o ∧ listP xs o
def Tup (X : Rl) (a : Addr) (xs : List Value) : Prop := ∃ o, X a o ∧ tupP xs o
def Ints (X : Rl) (a : Addr) (ns : List Int) : Prop := ∃ vs, Lst X a vs ∧ IntsAre vs ns
theorem Lst.mono {X Y : Rl} {a : Addr} {xs : List Value} (h : Lst X a xs) (k : Sub X Y) : Lst Y a xs := let ⟨o, x, p⟩ := h; ⟨o, k _ _ x, p⟩
theorem Tup.mono {X Y : Rl} {a : Addr} {xs : List Value} (h : Tup X a xs) (k : Sub X Y) : Tup Y a xs := let ⟨o, x, p⟩ := h; ⟨o, k _ _ x, p⟩
theorem Ints.mono {X Y : Rl} {a : Addr} {ns : List Int} (h : Ints X a ns) (k : Sub X Y) : Ints Y a ns := let ⟨vs, x, p⟩ := h; ⟨vs, x.mono k, p⟩
theorem Lst.isList {h : Heap} {a : Addr} {xs : List Value} (x : Lst (Hp h) a xs) : h.IsList a xs.toArray := At.isList x
theorem Tup.isTup {h : Heap} {a : Addr} {xs : List Value} (x : Tup (Hp h) a xs) : h.IsTuple a xs.toArray := x

section
variable {mg mb : Str → Option Value} {B : Rl} {h h' : Heap} {ob : Ob}
theorem St.hp (S : St mg mb B h ob) : Sub B (Hp h) := S.keep
theorem St.subMx (S : St mg mb B h ob) : Sub B (Mx ob h) := fun b o e => ⟨S.keep b o e, fun hm => by
  obtain ⟨p, hp, rfl⟩ := List.mem_map.mp hm
  exact (S.own p hp).2 o e⟩
theorem St.max (S : St mg mb B h ob) : St mg mb (Mx ob h) h ob :=
  ⟨let ⟨h₁, W, k⟩ := S.wd; ⟨h₁, W, fun b o e => S.subMx b o (k b o e)⟩, fun _ _ e => e.1, fun p hp => ⟨(S.own p hp).1, fun o e => e.2 (List.mem_map_of_mem hp)⟩, S.dis⟩
theorem St.less {B' : Rl} {h₀ : Heap} {ob₀ : Ob} (S₀ : St mg mb B h₀ ob₀) (S : St mg mb B' h ob) (k : Sub B B') : St mg mb B h ob :=
  ⟨S₀.wd, fun b o e => S.keep b o (k b o e), fun p hp => ⟨(S.own p hp).1, fun o e => (S.own p hp).2 o (k _ _ e)⟩, S.dis⟩
/-- an address of the ledger is there -/
theorem St.there (S : St mg mb B h ob) {a : Addr} (ha : a ∈ ob.map (·.1)) : ∃ o, h.get? a = some o := by
  obtain ⟨p, hp, rfl⟩ := List.mem_map.mp ha
  obtain ⟨o, ho, _⟩ := (S.own p hp).1
  exact ⟨o, ho⟩
end

/-- own objects let go: they stay from now on -/
theorem St.absorb {mg mb : Str → Option Value} {B : Rl} {h : Heap} {ob tl : Ob} (S : St mg mb B h (ob ++ tl)) : St mg mb (Mx ob h) h ob ∧ Sub B (Mx ob h) ∧ ∀ (a : Addr) (P : Th), (a, P) ∈ tl → ∃ o, Mx ob h a o ∧ P o := by
  have S₁ := S.sub (List.sublist_append_left ob tl)
  refine ⟨S₁.max, S₁.subMx, fun a P hm => ?_⟩
  obtain ⟨o, ho, hp⟩ := (S.own (a, P) (List.mem_append_right _ hm)).1
  refine ⟨o, ⟨ho, fun hx => ?_⟩, hp⟩
  have d := S.dis
  rw [List.map_append, List.nodup_append] at d
  exact d.2.2 a hx a (List.mem_map.mpr ⟨(a, P), hm, rfl⟩) rfl
/-- the last of the ledger lost -/
theorem St.lose {mg mb : Str → Option Value} {B : Rl} {h h' : Heap} {ob : Ob} {C : Addr} {P : Th} (S : St mg mb B h (ob ++ [(C, P)])) (k : ∀ b o, b ≠ C → h.get? b = some o → h'.get? b = some o) : St mg mb B h' ob := by
  have hC := S.own (C, P) (List.mem_append_right _ (.head _))
  have d := S.dis
  rw [List.map_append, List.nodup_append] at d
  refine ⟨S.wd, fun b o e => k b o (by rintro rfl; exact hC.2 o e) (S.keep b o e), fun p hp => ?_, d.1⟩
  have hp' := S.own p (List.mem_append_left _ hp)
  exact ⟨hp'.1.keep fun o e => k _ o (fun e' => d.2.2 p.1 (List.mem_map_of_mem hp) C (by simp) e') e, hp'.2⟩
theorem fresh_of {B : Rl} {h₀ : Heap} {a : Addr} (hB : Sub (Hp h₀) B) (hn : ∀ o, ¬ B a o) : h₀.get? a = none := by
  cases q : h₀.get? a with
  | none => rfl
  | some o => exact absurd (hB a o q) (hn o)
theorem St.new {mg mb : Str → Option Value} {B : Rl} {h h₀ : Heap} {ob : Ob} (S : St mg mb B h ob) (hB : Sub (Hp h₀) B) (j : Nat) {a : Addr} {P : Th} (hj : ob[j]? = some (a, P)) : h₀.get? a = none :=
  fresh_of hB (S.own _ (List.mem_of_getElem? hj)).2

/-- less said of a frame's names -/
def Fits : List (Option Value) → List (Option Value) → Prop
  | [], [] => True
  | a :: r, b :: r' => (b = none ∨ a = b) ∧ Fits r r'
  | _, _ => False
theorem Fits.at : ∀ {lv lv' : List (Option Value)}, Fits lv lv' → ∀ (i : Nat) (v : Value), lv'[i]? = some (some v) → lv[i]? = some (some v)
  | [], [], _, _, _, h => by simp at h
  | a :: r, b :: r', ⟨h1, h2⟩, 0, v, h => by
    simp only [List.getElem?_cons_zero, Option.some.injEq] at h ⊢
    rcases h1 with h1 | h1
    · rw [h1] at h; cases h
    · rw [h1]; exact h
  | a :: r, b :: r', ⟨h1, h2⟩, i + 1, v, h => by
    simp only [List.getElem?_cons_succ] at h ⊢
    exact h2.at i v h
theorem nsP.weak {names : List Str} {lv lv' : List (Option Value)} (f : Fits lv lv') (o : Obj) (h : nsP names lv o) : nsP names lv' o :=
  let ⟨m, es, ep, h1, h2, h3, h4⟩ := h; ⟨m, es, ep, h1, h2, h3, h4.weak f.at⟩
theorem St.wk {mg mb : Str → Option Value} {B : Rl} {h : Heap} {ob : Ob} (S : St mg mb B h ob) (j : Nat) {a : Addr} {P P' : Th} (hj : ob[j]? = some (a, P)) (f : ∀ o, P o → P' o) : St mg mb B h (ob.set j (a, P')) :=
  S.upd j hj (fun _ _ _ e => e) ((S.at j hj).weak f)

/-- the heap has moved at wr alone, the generators at gs alone -/
def Mv (wr : List Addr) (gs : List Nat) (s s' : Shared) : Prop :=
  (∀ b o, b ∉ wr → s.heap.get? b = some o → s'.heap.get? b = some o) ∧ s'.os = s.os ∧ (∀ (g : Nat) (x : GenState), g ∉ gs → s.gens[g]? = some x → s'.gens[g]? = some x) ∧ (AllBare s.gens → AllBare s'.gens)
theorem Mv.side {wr : List Addr} {gs : List Nat} {s₀ s s' : Shared} (m : Mv wr gs s s') (d : Side s₀ s) (hg : ∀ g ∈ gs, s₀.gens[g]? = none) : Side s₀ s' :=
  ⟨m.2.1.trans d.1, fun i x e => m.2.2.1 i x (fun hm => by rw [hg i hm] at e; cases e) (d.2.1 i x e), fun e => m.2.2.2 (d.2.2 e)⟩
theorem Mv.heap {wr : List Addr} {gs : List Nat} {s : Shared} {h' : Heap} {tk : Nat} (k : ∀ b o, b ∉ wr → s.heap.get? b = some o → h'.get? b = some o) : Mv wr gs s { s with heap := h', toks := tk } := ⟨k, rfl, fun _ _ _ e => e, id⟩

def keepers (wr : List Addr) (h : Heap) : Ob := wr.map fun b => (b, fun o => h.get? b = some o)
theorem keepers_fst (wr : List Addr) (h : Heap) : (keepers wr h).map (·.1) = wr := by simp [keepers, Function.comp_def]

structure Wk0 (prog : Program) (w : World) (A : Around) (I : Addr) (wr fp : List Addr) (gs : List Nat) (n : Nat) (target : PySem.Expr) (P : Nat → Value → Rl → Prop) (Stt : Nat → Shared → Prop) (Mid : Nat → Value → Shared → Prop) : Prop where
  mono : ∀ i v X Y, Sub X Y → P i v X → P i v Y
  sub : ∀ b ∈ wr, b ∈ fp
  nd : wr.Nodup
  here : ∀ i s, Stt i s → ∀ b ∈ wr, ∃ o, s.heap.get? b = some o
  frame : ∀ i s s', Stt i s → (∀ b ∈ fp, ∀ o, s.heap.get? b = some o → s'.heap.get? b = some o) → (∀ g ∈ gs, ∀ x, s.gens[g]? = some x → s'.gens[g]? = some x) → Stt i s'
  item : ∀ i (s : Shared) (Q : Option Value → Shared → Prop) (E : Value → Shared → Prop), i < n → Stt i s → (∀ v s', P i v (Nw s s') → Mid i v s' → Mv wr gs s s' → Q (some v) s') → wpAny (model prog w) A (pyNext (.ref I)) Q E s
  go : ∀ i v (s : Shared) (Q : Unit → Shared → Prop) (E : Value → Shared → Prop), Mid i v s → (∀ s', Stt (i + 1) s' → Mv wr gs s s' → Q () s') → wpAny (model prog w) A (letOwnedTupleGo target (.ref I) v) Q E s
  self : ∀ i (s : Shared) (Q : Value → Shared → Prop) (E : Value → Shared → Prop), Stt i s → Q (.ref I) s → wpAny (model prog w) A (pyIter (.ref I)) Q E s

structure Wk (prog : Program) (w : World) (A : Around) (I : Addr) (wr fp : List Addr) (gs : List Nat) (n : Nat) (target : PySem.Expr) (P : Nat → Value → Rl → Prop) (Stt : Nat → Shared → Prop) (Mid : Nat → Value → Shared → Prop) : Prop extends Wk0 prog w A I wr fp gs n target P Stt Mid where
  done : ∀ (s : Shared) (Q : Option Value → Shared → Prop) (E : Value → Shared → Prop), Stt n s → (∀ s', Mv wr gs s s' → Q none s') → wpAny (model prog w) A (pyNext (.ref I)) Q E s

section
variable {prog : Program} {w : World} {A : Around} {s : Shared} {mg mb : Str → Option Value} {B : Rl} {ob : Ob}
/-- the iterator's step, seen by the ledger -/
theorem St.mv {wr : List Addr} {gs : List Nat} {s' : Shared} (S : St mg mb B s.heap ob) (hw : ∀ b ∈ wr, (∀ o, ¬ B b o) ∧ b ∉ ob.map (·.1)) (m : Mv wr gs s s') : St mg mb B s'.heap ob :=
  ⟨S.wd, fun b o e => m.1 b o (fun hm => (hw b hm).1 o e) (S.keep b o e), fun p hp => ⟨(S.own p hp).1.keep fun o e => m.1 _ o (fun hm => (hw _ hm).2 (List.mem_map_of_mem hp)) e, (S.own p hp).2⟩, S.dis⟩
theorem St.withKeepers {wr : List Addr} {h : Heap} (S : St mg mb B h ob) (hw : ∀ b ∈ wr, (∀ o, ¬ B b o) ∧ b ∉ ob.map (·.1)) (nd : wr.Nodup) (here : ∀ b ∈ wr, ∃ o, h.get? b = some o) : St mg mb B h (ob ++ keepers wr h) := by
  refine ⟨S.wd, S.keep, fun p hp => ?_, ?_⟩
  · rcases List.mem_append.mp hp with hp | hp
    · exact S.own p hp
    · obtain ⟨b, hb, rfl⟩ := List.mem_map.mp hp
      obtain ⟨o, ho⟩ := here b hb
      exact ⟨⟨o, ho, ho⟩, (hw b hb).1⟩
  · rw [List.map_append, keepers_fst, List.nodup_append]
    exact ⟨S.dis, nd, fun a ha b hb e => (hw b hb).2 (e ▸ ha)⟩

def Post (R : Result → Shared → Prop) (K : Shared → Prop) : Flow → Shared → Prop := fun f s₃ => match f with
  | .next | .cont => K s₃
  | .brk => R (.ok .next) s₃
  | .ret v => R (.ok (.ret v)) s₃

def LoopInv (mg mb : Str → Option Value) (n : Nat) (Inv : Nat → Ob → Rl → Prop) (B : Rl) (ob : Ob) (wr : List Addr) (s₀ : Shared) (Stt : Nat → Shared → Prop) (k : Nat) (s' : Shared) : Prop :=
  ∃ i ob' B', k = n - i ∧ i ≤ n ∧ Inv i ob' B' ∧ Sub B B' ∧ St mg mb B' s'.heap ob' ∧ (∀ b ∈ wr, (∀ o, ¬ B' b o)) ∧ Side s₀ s' ∧ ob'.map (·.1) = ob.map (·.1) ∧ Stt i s'
/-- what a turn must leave behind -/
def Turned (mg mb : Str → Option Value) (Inv : Nat → Ob → Rl → Prop) (ob : Ob) (wr : List Addr) (i : Nat) (B' : Rl) (s₁ s₃ : Shared) : Prop :=
  ∃ ob₃ B₃, Inv (i + 1) ob₃ B₃ ∧ ob₃.map (·.1) = ob.map (·.1) ∧ Sub B' B₃ ∧ St mg mb B₃ s₃.heap (ob₃ ++ keepers wr s₁.heap) ∧ Side s₁ s₃
theorem step_wk {target : PySem.Expr} {I : Addr} {wr fp : List Addr} {gs : List Nat} {n : Nat} {P : Nat → Value → Rl → Prop} {Stt : Nat → Shared → Prop} {Mid : Nat → Value → Shared → Prop}
    (W : Wk0 prog w A I wr fp gs n target P Stt Mid) (s₀ : Shared) (hwr : ∀ b ∈ wr, b ∉ ob.map (·.1)) (hfp : ∀ b ∈ fp, b ∉ ob.map (·.1)) (hgs : ∀ g ∈ gs, s₀.gens[g]? = none)
    (Inv : Nat → Ob → Rl → Prop) (hmono : ∀ i ob X Y, Sub X Y → Inv i ob X → Inv i ob Y) (T : Value → (Shared → Prop) → Shared → Prop) (D : Shared → Prop) {E : Value → Shared → Prop} {k : Nat}
    (turn : ∀ i v B' ob₁ s₁ K, i < n → Inv i ob₁ B' → Sub B B' → St mg mb B' s₁.heap (ob₁ ++ keepers wr s₁.heap) → P i v B' → Side s₀ s₁ → ob₁.map (·.1) = ob.map (·.1) →
      (∀ s₃, Turned mg mb Inv ob wr i B' s₁ s₃ → K s₃) → T v K s₁)
    (done : ∀ ob' B' s', Inv n ob' B' → Sub B B' → St mg mb B' s'.heap ob' → (∀ b ∈ wr, (∀ o, ¬ B' b o)) → Side s₀ s' → ob'.map (·.1) = ob.map (·.1) → Stt n s' → wpAny (model prog w) A (pyNext (.ref I)) (fun r s₁ => r = none ∧ D s₁) E s')
    (h : LoopInv mg mb n Inv B ob wr s₀ Stt k s) :
    wpAny (model prog w) A (pyNext (.ref I)) (fun r s₁ => match r with
      | none => D s₁
      | some v => wpAny (model prog w) A (letOwnedTupleGo target (.ref I) v) (fun _ s₂ => T v (fun s₄ => ∃ m, m < k ∧ LoopInv mg mb n Inv B ob wr s₀ Stt m s₄) s₂) E s₁) E s := by
  obtain ⟨i, ob', B', rfl, hi, hI, hB, S', hw', sd', hadr, hst'⟩ := h
  have hw₁ : ∀ b ∈ wr, (∀ o, ¬ B' b o) ∧ b ∉ ob'.map (·.1) := fun b hb => ⟨hw' b hb, by rw [hadr]; exact hwr b hb⟩
  by_cases hlt : i < n
  · refine W.item i s _ _ hlt hst' fun v s₁ hP hM m₁ => ?_
    refine W.go i v s₁ _ _ hM fun s₂ hst₂ m₂ => ?_
    have S₁ := S'.mv hw₁ m₁
    have S₂ := S₁.mv hw₁ m₂
    have S₃ := (S₂.withKeepers hw₁ W.nd (W.here _ _ hst₂))
    have S₄ := S₃.max
    have hB' : Sub B' (Mx (ob' ++ keepers wr s₂.heap) s₂.heap) := S₃.subMx
    have hPX : P i v (Mx (ob' ++ keepers wr s₂.heap) s₂.heap) := by
      refine W.mono i v _ _ ?_ hP
      rintro b o ⟨hn, ho⟩
      have nw : b ∉ wr := fun hm => by obtain ⟨o', ho'⟩ := W.here _ _ hst' b hm; rw [hn] at ho'; cases ho'
      refine ⟨m₂.1 b o nw ho, fun hm => ?_⟩
      rw [List.map_append, keepers_fst] at hm
      rcases List.mem_append.mp hm with hm | hm
      · obtain ⟨o', ho'⟩ := S'.there hm; rw [hn] at ho'; cases ho'
      · exact nw hm
    refine turn i v _ ob' s₂ _ hlt (hmono _ _ _ _ hB' hI) (hB.trans hB') S₄ hPX (m₂.side (m₁.side sd' hgs) hgs) hadr ?_
    rintro s₄ ⟨ob₃, B₃, hI₃, hadr₃, hs₃, T, sd₄⟩
    refine ⟨n - (i + 1), by omega, i + 1, ob₃, B₃, rfl, hlt, hI₃, (hB.trans hB').trans hs₃, T.sub (List.sublist_append_left _ _), fun b hb o e => ?_, (m₂.side (m₁.side sd' hgs) hgs).trans sd₄, hadr₃, ?_⟩
    · exact (T.own (b, fun o => s₂.heap.get? b = some o) (List.mem_append_right _ (List.mem_map.mpr ⟨b, hb, rfl⟩))).2 o e
    · refine W.frame _ _ _ hst₂ (fun b hb o ho => ?_) (fun g _ x e => sd₄.2.1 g x e)
      by_cases hbw : b ∈ wr
      · obtain ⟨o', ho', he⟩ := (T.own (b, fun o => s₂.heap.get? b = some o) (List.mem_append_right _ (List.mem_map.mpr ⟨b, hbw, rfl⟩))).1
        have he' : s₂.heap.get? b = some o' := he
        rw [ho] at he'; cases he'
        exact ho'
      · refine T.keep b o (hs₃ b o ⟨ho, fun hm => ?_⟩)
        rw [List.map_append, keepers_fst] at hm
        rcases List.mem_append.mp hm with hm | hm
        · rw [hadr] at hm; exact hfp b hb hm
        · exact hbw hm
  · have e : i = n := by omega
    subst e
    refine wpAny_mono (done ob' B' s hI hB S' hw' sd' hadr hst') (fun r s₁ h₁ => ?_) fun _ _ e => e
    obtain ⟨rfl, h₁⟩ := h₁
    exact h₁
theorem step_done {target : PySem.Expr} {I : Addr} {wr fp : List Addr} {gs : List Nat} {n : Nat} {P : Nat → Value → Rl → Prop} {Stt : Nat → Shared → Prop} {Mid : Nat → Value → Shared → Prop}
    (W : Wk prog w A I wr fp gs n target P Stt Mid) {s₀ : Shared} (hwr : ∀ b ∈ wr, b ∉ ob.map (·.1)) (hgs : ∀ g ∈ gs, s₀.gens[g]? = none) {Inv : Nat → Ob → Rl → Prop} {D : Shared → Prop} {E : Value → Shared → Prop}
    (done : ∀ ob' B' s', Inv n ob' B' → Sub B B' → St mg mb B' s'.heap ob' → Side s₀ s' → ob'.map (·.1) = ob.map (·.1) → D s') :
    ∀ ob' B' s', Inv n ob' B' → Sub B B' → St mg mb B' s'.heap ob' → (∀ b ∈ wr, (∀ o, ¬ B' b o)) → Side s₀ s' → ob'.map (·.1) = ob.map (·.1) → Stt n s' → wpAny (model prog w) A (pyNext (.ref I)) (fun r s₁ => r = none ∧ D s₁) E s' :=
  fun ob' B' s' hI hB S' hw' sd' hadr hst' => W.done s' _ _ hst' fun s₁ m₁ => ⟨rfl, done ob' B' s₁ hI hB (S'.mv (fun b hb => ⟨hw' b hb, by rw [hadr]; exact hwr b hb⟩) m₁) (m₁.side sd' hgs) hadr⟩
theorem step_all {target : PySem.Expr} {I : Addr} {wr fp : List Addr} {gs : List Nat} {n : Nat} {P : Nat → Value → Rl → Prop} {Stt : Nat → Shared → Prop} {Mid : Nat → Value → Shared → Prop}
    (W : Wk prog w A I wr fp gs n target P Stt Mid) (s₀ : Shared) (hwr : ∀ b ∈ wr, b ∉ ob.map (·.1)) (hfp : ∀ b ∈ fp, b ∉ ob.map (·.1)) (hgs : ∀ g ∈ gs, s₀.gens[g]? = none)
    (Inv : Nat → Ob → Rl → Prop) (hmono : ∀ i ob X Y, Sub X Y → Inv i ob X → Inv i ob Y) (T : Value → (Shared → Prop) → Shared → Prop) (D : Shared → Prop) {E : Value → Shared → Prop} {k : Nat}
    (turn : ∀ i v B' ob₁ s₁ K, i < n → Inv i ob₁ B' → Sub B B' → St mg mb B' s₁.heap (ob₁ ++ keepers wr s₁.heap) → P i v B' → Side s₀ s₁ → ob₁.map (·.1) = ob.map (·.1) →
      (∀ s₃, Turned mg mb Inv ob wr i B' s₁ s₃ → K s₃) → T v K s₁)
    (done : ∀ ob' B' s', Inv n ob' B' → Sub B B' → St mg mb B' s'.heap ob' → Side s₀ s' → ob'.map (·.1) = ob.map (·.1) → D s')
    (h : LoopInv mg mb n Inv B ob wr s₀ Stt k s) :
    wpAny (model prog w) A (pyNext (.ref I)) (fun r s₁ => match r with
      | none => D s₁
      | some v => wpAny (model prog w) A (letOwnedTupleGo target (.ref I) v) (fun _ s₂ => T v (fun s₄ => ∃ m, m < k ∧ LoopInv mg mb n Inv B ob wr s₀ Stt m s₄) s₂) E s₁) E s :=
  step_wk W.toWk0 s₀ hwr hfp hgs Inv hmono T D turn (step_done W hwr hgs done) h
theorem LoopInv.zero {wr : List Addr} {n : Nat} {Stt : Nat → Shared → Prop} {s₀ : Shared} (S : St mg mb B s.heap ob) (hwr : ∀ b ∈ wr, (∀ o, ¬ B b o)) (hsd : Side s₀ s) (hst : Stt 0 s) {Inv : Nat → Ob → Rl → Prop} (h0 : Inv 0 ob B) : LoopInv mg mb n Inv B ob wr s₀ Stt n s :=
  ⟨0, ob, B, rfl, Nat.zero_le _, h0, Sub.refl B, S, hwr, hsd, rfl, hst⟩

theorem for_core {R : Result → Shared → Prop} {target : PySem.Expr} {body : List Stmt} {env : Env} {I : Addr} {wr fp : List Addr} {gs : List Nat} {n : Nat} {P : Nat → Value → Rl → Prop} {Stt : Nat → Shared → Prop} {Mid : Nat → Value → Shared → Prop}
    (W : Wk0 prog w A I wr fp gs n target P Stt Mid) (s₀ : Shared) (S : St mg mb B s.heap ob) (hwr : ∀ b ∈ wr, (∀ o, ¬ B b o) ∧ b ∉ ob.map (·.1)) (hfp : ∀ b ∈ fp, b ∉ ob.map (·.1)) (hsd : Side s₀ s) (hgs : ∀ g ∈ gs, s₀.gens[g]? = none)
    (hst : Stt 0 s) (Inv : Nat → Ob → Rl → Prop) (h0 : Inv 0 ob B) (hmono : ∀ i ob X Y, Sub X Y → Inv i ob X → Inv i ob Y)
    (turn : ∀ i v B' ob₁ s₁ E, i < n → Inv i ob₁ B' → Sub B B' → St mg mb B' s₁.heap (ob₁ ++ keepers wr s₁.heap) → P i v B' → Side s₀ s₁ → ob₁.map (·.1) = ob.map (·.1) →
      wpAny (model prog w) A (assign target env v) (fun _ s₂ => wpAny (model prog w) A (execs body env) (Post R (Turned mg mb Inv ob wr i B' s₁)) E s₂) E s₁)
    (done : ∀ E ob' B' s', Inv n ob' B' → Sub B B' → St mg mb B' s'.heap ob' → (∀ b ∈ wr, (∀ o, ¬ B' b o)) → Side s₀ s' → ob'.map (·.1) = ob.map (·.1) → Stt n s' → wpAny (model prog w) A (pyNext (.ref I)) (fun r s₁ => r = none ∧ R (.ok .next) s₁) E s') :
    codeAny (model prog w) A (.forLoop target (.ref I) body [] env) R s := by
  refine codeAny_forLoop_any (LoopInv mg mb n Inv B ob wr s₀ Stt) ?_ n (LoopInv.zero S (fun b hb => (hwr b hb).1) hsd hst h0)
  intro k s' hL
  have key := step_wk (E := notedBy (model prog w) A env fun e s' => R (.error e) s') W s₀ (fun b hb => (hwr b hb).2) hfp hgs Inv hmono
    (fun v K s₁ => wpAny (model prog w) A (assign target env v) (fun _ s₂ => wpAny (model prog w) A (execs body env) (Post R K) (notedBy (model prog w) A env fun e s' => R (.error e) s') s₂) (notedBy (model prog w) A env fun e s' => R (.error e) s') s₁) (R (.ok .next))
    (fun i v B' ob₁ s₁ K a b c d e f g hK => wpAny_mono (turn i v B' ob₁ s₁ _ a b c d e f g) (fun _ s₃ h₃ => wpAny_mono h₃ (fun fl s₄ h₄ => by
      cases fl with
      | next => exact hK _ h₄
      | cont => exact hK _ h₄
      | brk => exact h₄
      | ret v => exact h₄) fun _ _ e => e) fun _ _ e => e) (done _) hL
  refine wpAny_mono key (fun r s₁ h₁ => ?_) fun _ _ e => e
  cases r with
  | none => exact wpAny_execs_nil h₁
  | some v =>
    refine wpAny_mono h₁ (fun _ s₂ h₂ => wpAny_mono h₂ (fun _ s₃ h₃ => wpAny_mono h₃ (fun fl s₄ h₄ => ?_) fun _ _ e => e) fun _ _ e => e) fun _ _ e => e
    cases fl with
    | next => exact h₄
    | cont => exact h₄
    | brk => exact h₄
    | ret v => exact h₄
theorem for_wk {R : Result → Shared → Prop} {target : PySem.Expr} {body : List Stmt} {env : Env} {I : Addr} {wr fp : List Addr} {gs : List Nat} {n : Nat} {P : Nat → Value → Rl → Prop} {Stt : Nat → Shared → Prop} {Mid : Nat → Value → Shared → Prop}
    (W : Wk prog w A I wr fp gs n target P Stt Mid) (s₀ : Shared) (S : St mg mb B s.heap ob) (hwr : ∀ b ∈ wr, (∀ o, ¬ B b o) ∧ b ∉ ob.map (·.1)) (hfp : ∀ b ∈ fp, b ∉ ob.map (·.1)) (hsd : Side s₀ s) (hgs : ∀ g ∈ gs, s₀.gens[g]? = none)
    (hst : Stt 0 s) (Inv : Nat → Ob → Rl → Prop) (h0 : Inv 0 ob B) (hmono : ∀ i ob X Y, Sub X Y → Inv i ob X → Inv i ob Y)
    (turn : ∀ i v B' ob₁ s₁ E, i < n → Inv i ob₁ B' → Sub B B' → St mg mb B' s₁.heap (ob₁ ++ keepers wr s₁.heap) → P i v B' → Side s₀ s₁ → ob₁.map (·.1) = ob.map (·.1) →
      wpAny (model prog w) A (assign target env v) (fun _ s₂ => wpAny (model prog w) A (execs body env)
        (Post R fun s₃ => ∃ ob₃ B₃, Inv (i + 1) ob₃ B₃ ∧ ob₃.map (·.1) = ob.map (·.1) ∧ Sub B' B₃ ∧ St mg mb B₃ s₃.heap (ob₃ ++ keepers wr s₁.heap) ∧ Side s₁ s₃) E s₂) E s₁)
    (done : ∀ ob' B' s', Inv n ob' B' → Sub B B' → St mg mb B' s'.heap ob' → Side s₀ s' → ob'.map (·.1) = ob.map (·.1) → R (.ok .next) s') :
    codeAny (model prog w) A (.forLoop target (.ref I) body [] env) R s :=
  for_core W.toWk0 s₀ S hwr hfp hsd hgs hst Inv h0 hmono turn fun E => step_done W (fun b hb => (hwr b hb).2) hgs done
end

/-- a list walked -/
theorem Wk.list {prog : Program} {w : World} {A : Around} (hh : A.handled = none) (I ax : Addr) (hne : ax ≠ I) (xs : List Value) (x : Str) (pos : Pos) :
    Wk prog w A I [I] [I, ax] [] xs.length (.Name x pos) (fun i v _ => xs[i]? = some v) (fun i s => s.heap.IsListIter I ax i ∧ s.heap.IsList ax xs.toArray) (fun i _ s => s.heap.IsListIter I ax (i + 1) ∧ s.heap.IsList ax xs.toArray) where
  mono := fun _ _ _ _ _ h => h
  sub := fun b hb => by simp at hb; simp [hb]
  nd := by simp
  here := fun i s st b hb => by
    rw [List.mem_singleton.mp hb]
    obtain ⟨o, ho, _⟩ := st.1
    exact ⟨o, ho⟩
  frame := fun i s s' st k _ => ⟨let ⟨o, ho, r⟩ := st.1; ⟨o, k I (by simp) o ho, r⟩, let ⟨o, ho, r⟩ := st.2; ⟨o, k ax (by simp) o ho, r⟩⟩
  item := fun i s Q E hi st hQ => by
    refine wpAny_pyNext_list_item st.1 st.2 (x := xs[i]) (by simp [hi]) fun h' hit' hs' => ?_
    refine hQ _ _ (by simp [hi]) ⟨hit', st.2.extBut hs'.extBut hne⟩ ?_
    exact ⟨fun b o hb e => hs'.extBut b o (fun h => hb (by simp [h])) e, rfl, fun _ _ _ e => e, id⟩
  go := fun i v s Q E st hQ => wpAny_pure (hQ s st ⟨fun _ _ _ e => e, rfl, fun _ _ _ e => e, id⟩)
  done := fun s Q E st hQ => wpAny_pyNext_list_end hh st.1 st.2 (by simp) fun h' he' => hQ _ ⟨fun b o hb e => he' b o (fun h => hb (by simp [h])) e, rfl, fun _ _ _ e => e, id⟩
  self := fun i s Q E st hQ => wpAny_pyIter_listiter st.1 hQ

/-- enumerate over a list -/
theorem Wk.enum {prog : Program} {w : World} {A : Around} (hh : A.handled = none) (e it l : Addr) (hei : e ≠ it) (hle : l ≠ e) (hli : l ≠ it) (xs : List Value) (elts : List PySem.Expr) (k : Nat) (pos : Pos) :
    Wk prog w A e [e, it] [e, it, l] [] xs.length (.Tuple elts k pos) (fun i v X => ∃ T t x, v = .ref T ∧ xs[i]? = some x ∧ Tup X T [.int i t, x])
      (fun i s => (∃ old, IsEnum s.heap e it i old) ∧ s.heap.IsListIter it l i ∧ s.heap.IsList l xs.toArray)
      (fun i v s => ∃ T x, v = .ref T ∧ IsEnumOut s.heap e it ((i : Int) + 1) x T ∧ s.heap.IsListIter it l (i + 1) ∧ s.heap.IsList l xs.toArray) where
  mono := fun _ _ _ _ h ⟨T, t, x, h1, h2, h3⟩ => ⟨T, t, x, h1, h2, h3.mono h⟩
  sub := fun b hb => by simp at hb; rcases hb with rfl | rfl <;> simp
  nd := by simp [hei]
  here := fun i s st b hb => by
    obtain ⟨⟨old, he⟩, ⟨o, ho, _⟩, _⟩ := st
    simp at hb
    rcases hb with rfl | rfl
    · exact ⟨_, he⟩
    · exact ⟨_, ho⟩
  frame := fun i s s' st k _ => by
    obtain ⟨⟨old, he⟩, ⟨o, ho, r⟩, ⟨o', ho', r'⟩⟩ := st
    exact ⟨⟨old, k e (by simp) _ he⟩, ⟨o, k it (by simp) o ho, r⟩, ⟨o', k l (by simp) o' ho', r'⟩⟩
  item := fun i s Q E hi st hQ => by
    obtain ⟨⟨old, he⟩, hit, hl⟩ := st
    refine wpAny_pyNext_enum_item he hit hl (x := xs[i]) (by simp [hi]) hei fun h' ho hit' hT hsz hk => ?_
    refine hQ _ _ ⟨_, s.toks, xs[i], rfl, by simp [hi], _, ⟨?_, hT⟩, rfl, 0, rfl⟩ ⟨_, _, rfl, ho, hit', hl.at fun o x => hk l o hle hli x⟩ ⟨fun b o hb x => hk b o (fun e' => hb (by simp [e'])) (fun e' => hb (by simp [e'])) x, rfl, fun _ _ _ e => e, id⟩
    cases q : s.heap.get? s.heap.objs.size with
    | none => rfl
    | some o' => exact absurd (Heap.lt_size q) (Nat.lt_irrefl _)
  go := fun i v s Q E hm hQ => by
    obtain ⟨T, x, rfl, ho, hit, hl⟩ := hm
    refine wpAny_letOwnedTupleGo_enum ho fun h' he' hs' => hQ _ ⟨⟨x, by simpa using he'⟩, hit.at fun o y => (hs'.2 it hei.symm).trans y, hl.at fun o y => (hs'.2 l hle).trans y⟩ ⟨fun b o hb y => ?_, rfl, fun _ _ _ e => e, id⟩
    exact (hs'.2 b fun e' => hb (by simp [e'])).trans y
  done := fun s Q E st hQ => by
    obtain ⟨⟨old, he⟩, hit, hl⟩ := st
    exact wpAny_pyNext_enum_end hh he hit hl (by simp) fun h' hx => hQ _ ⟨fun b o hb y => hx b o (fun e' => hb (by simp [e'])) y, rfl, fun _ _ _ e => e, id⟩
  self := fun i s Q E st hQ => by
    obtain ⟨⟨old, he⟩, _, _⟩ := st
    exact wpAny_pyIter_enum he hQ
end Mine
end
/-! ## F3 -/
section
set_option maxRecDepth 100000
set_option maxHeartbeats 4000000
open PySem PySem.Calls PySem.W PyProof.Rows
namespace Mine
section
variable {prog : Program} {w : World} {A : Around} {E : Value → Shared → Prop} {s : Shared} {mg mb : Str → Option Value} {B : Rl} {ob : Ob} {env : Env} {L : Addr} {names : List Str} {cells : List (Str × Addr)} {globs : List Str}

/-- a list display of no items -/
theorem nil_ {pos : Pos} {Q : Value → Shared → Prop} (S : St mg mb B s.heap ob)
    (h : ∀ D h', St mg mb B h' (ob ++ [(D, listP [])]) → Q (.ref D) { s with heap := h' }) : wpAny (model prog w) A (eval (.List [] pos) env) Q E s := by
  refine wpAny_List_spliced (spliced_nil ⟨by rw [sizeLine_eq]; decide, ?_⟩)
  exact h _ _ (S.push (listP []) ⟨rfl, rfl, 0, rfl⟩)
theorem newList_ {vs : List Value} {Q : Value → Shared → Prop} (S : St mg mb B s.heap ob) (hsz : vs.length ≤ sizeLine)
    (h : ∀ D h', St mg mb B h' (ob ++ [(D, listP vs)]) → Q (.ref D) { s with heap := h' }) : wpAny (model prog w) A (newList vs) Q E s :=
  wpAny_newList (h _ _ (S.push (listP vs) ⟨rfl, rfl, 0, rfl⟩)) hsz
theorem newTuple_ {vs : List Value} {Q : Value → Shared → Prop} (S : St mg mb B s.heap ob) (hsz : vs.length ≤ sizeLine)
    (h : ∀ D h', St mg mb B h' (ob ++ [(D, tupP vs)]) → Q (.ref D) { s with heap := h' }) : wpAny (model prog w) A (newTuple vs) Q E s :=
  wpAny_newTuple (h _ _ (S.push (tupP vs) ⟨rfl, 0, rfl⟩)) hsz

theorem append_ (j : Nat) {D : Addr} {xs : List Value} {x : Value} {Q : Value → Shared → Prop} (S : St mg mb B s.heap ob) (hj : ob[j]? = some (D, listP xs)) (hsz : xs.length ≤ sizeLine)
    (h : ∀ h', St mg mb B h' (ob.set j (D, listP (xs ++ [x]))) → Q .none { s with heap := h' }) : wpAny (model prog w) A (call (.builtin "list.append") [.ref D, x]) Q E s := by
  refine list_append_plainL (hsz := by simpa using hsz) (S.at j hj).plain fun h' hp hs => h h' (S.same j hj hs ?_)
  have e : xs.toArray.push x = (xs ++ [x]).toArray := by simp
  rw [e] at hp
  exact At.of_plain hp
/-- the statement «name.append(elt)», the name bound to an own list -/
theorem appendS_ {o elt : PySem.Expr} {apos pos spos : Pos} {Q : Flow → Shared → Prop}
    (h : wpAny (model prog w) A (eval o env) (fun ov s₁ => ∃ D xs, ov = .ref D ∧ At s₁.heap D (listP xs) ∧ wpAny (model prog w) A (eval elt env) (fun y s₂ => wpAny (model prog w) A (call (.builtin "list.append") [.ref D, y]) (fun _ => Q .next) E s₂) E s₁) E s)
    (hbase : attributeBase o "append" env (eval o env) = eval o env)
    (hi : interactive env = false) (hs : swapsWith (.Call (.Attribute o "append" apos) [elt] [] pos) none spos.line env = pure false)
    (hfew : ((backTo pos (starEach [elt] env)).all (fun x => !x.1) && (backToKw pos (keywordEach [] env)).all (fun x => x.1.isSome)
      && decide (([elt] : List PySem.Expr).length + ([] : List Keyword).length + (if ([] : List Keyword).isEmpty then 0 else 1) < 30)) = true := by rfl)
    (hline : (apos.endLine == pos.line) = true := by rfl)
    (htrees : backTo pos (starEach [elt] env) = [(false, eval elt env)] := by rfl) :
    wpAny (model prog w) A (exec (.Expr (.Call (.Attribute o "append" apos) [elt] [] pos) spos) env) Q E s := by
  refine wpAny_Expr_any (wpAny_Call_append hbase hfew hline htrees (wpAny_mono h (fun ov s₁ q => ?_) fun _ _ e => e)) hi hs
  obtain ⟨D, xs, h1, h2, h3⟩ := q
  exact ⟨D, _, h1, h2.plain, h3⟩

/-- the last item of an own list -/
theorem last_ (j : Nat) {D : Addr} {xs : List Value} {x : Value} {t : Tok} {value slice : PySem.Expr} {Q : Value → Shared → Prop} (S : St mg mb B s.heap ob) (hj : ob[j]? = some (D, listP xs)) (hx : xs.getLast? = some x) (h : Q x s)
    (hs : subscripted slice false (.ref D) (.int (-1) t) = operate [.ref D, .int (-1) t] (getItem (.ref D) (.int (-1) t)) := by with_unfolding_all rfl) (hg : ∀ r, letTemporaryGo value (.ref D) r = pure () := by intro _; with_unfolding_all rfl) :
    wpAny (model prog w) A (subscriptTail value slice (.ref D) (.int (-1) t)) Q E s := by
  have hl := (S.at j hj).isList
  have hne : xs ≠ [] := by rintro rfl; cases hx
  have hp : 0 < xs.length := List.length_pos_iff.mpr hne
  refine subscriptTail_builtin hl.typeIs slot_list_getitem.lookup (wpAny_getItem_list_neg hl (by omega) (by simp; omega) (by omega) ?_ h) hs hg
  rw [List.getLast?_eq_getElem?] at hx
  have e : (-1 + (xs.toArray.size : Int)).toNat = xs.length - 1 := by simp; omega
  rw [e]; simpa using hx

/-- the last item of an own list put anew -/
theorem setLast_ (j : Nat) {D : Addr} {xs : List Value} {v : Value} {t : Tok} {Q : Unit → Shared → Prop} (S : St mg mb B s.heap ob) (hj : ob[j]? = some (D, listP xs)) (hne : xs ≠ [])
    (h : ∀ h', St mg mb B h' (ob.set j (D, listP (xs.dropLast ++ [v]))) → Q () { s with heap := h' }) : wpAny (model prog w) A (setItem (.ref D) (.int (-1) t) v) Q E s := by
  have hP := S.at j hj
  have hl := hP.isList
  obtain ⟨o, ho, hc, hdn, n, hd⟩ := hP
  have hp : 0 < xs.length := List.length_pos_iff.mpr hne
  unfold setItem
  try with_reducible refine wpAny_holding ?_
  first | refine wpAny_bind (wpAny_pure ?_) | skip
  refine wpAny_bind (wpAny_sequenceKey hl.typeIs (by decide) ?_)
  refine wpAny_bind (wpAny_callSpecial?_slot (name := Str.ofString "__setitem__") hl.typeIs slot_list_setitem
    (wpAny_call_entry slot_list_setitem hl.typeIs entry_list_setitem ?_ (args_list_setitem _ _ _)))
  show wpAny _ _ (Builtin.List.listSubscript? (.int (-1) t) >>= _) _ _ s
  refine wpAny_bind (wpAny_listSubscript_int (fitsIndex_neg (by omega) (by omega)) ?_)
  have hidx : seqIndex? (Int.negSucc 0) xs.toArray.size = some (xs.length - 1) := by
    rw [seqIndex_neg (by decide) (by simp; omega)]
    congr 1
    simp; omega
  have hx : xs.toArray[xs.length - 1]? = some (xs.getLast hne) := by
    simp [List.getLast_eq_getElem]
  show wpAny _ _ ((Builtin.List.listItems (.ref D) >>= fun ys => pure ((seqIndex? (Int.negSucc 0) ys.size).bind fun i => ys[i]?.map (i, ·))) >>= _) _ _ s
  refine wpAny_bind (wpAny_bind ?_)
  show wpAny _ _ (seqItems? (.ref D) >>= _) _ _ s
  refine wpAny_bind (wpAny_seqItems ho hd (wpAny_pure (wpAny_pure ?_)))
  rw [hidx]
  simp only [Option.bind_some, hx, Option.map_some]
  show wpAny _ _ (setSeqItemAt D (xs.length - 1) v >>= _) _ _ s
  obtain ⟨n', hd'⟩ := Obj.data_mapSeq hd (·.setIfInBounds (xs.length - 1) v)
  have earr : xs.toArray.setIfInBounds (xs.length - 1) v = (xs.dropLast ++ [v]).toArray := by
    apply Array.ext'
    simp only [Array.toList_setIfInBounds]
    obtain ⟨ys, y, rfl⟩ : ∃ ys y, xs = ys ++ [y] := ⟨xs.dropLast, xs.getLast hne, (List.dropLast_concat_getLast hne).symm⟩
    simp
  rw [earr] at hd'
  have hfin : At (s.heap.update D (Obj.mapSeq (·.setIfInBounds (xs.length - 1) v))) D (listP (xs.dropLast ++ [v])) := by
    refine ⟨_, Heap.get?_update_self _ ho (Obj.isFreed_of_seq hd'), (Obj.cls_mapSeq ..).trans hc, ?_, n', hd'⟩
    obtain ⟨c, d, dt, sl⟩ := o
    subst hd
    exact hdn
  have key := h _ (S.same j hj (Heap.SameBut.update ..) hfin)
  refine wpAny_bind (wpAny_setSeqItemAt ho hd ?_)
  first
    | exact wpAny_bind (wpAny_pure (wpAny_pure ⟨.none, rfl, wpAny_pure key⟩))
    | exact wpAny_pure ⟨.none, rfl, wpAny_pure key⟩

/-- a built-in type by name, one argument -/
theorem tcall1 {x : Str} {id : String} {e₁ : PySem.Expr} {fp pos : Pos} {Q : Value → Shared → Prop} (S : St mg mb B s.heap ob) (V : Ev env L names cells globs) (hx : x ∈ globs) (hu : x ∈ builtinsUsed) (hv : bootBuiltins x = some (.type id))
    (h : wpAny (model prog w) A (eval e₁ env) (fun v₁ s₁ => wpAny (model prog w) A (call (.type id) [v₁]) Q E s₁) E s)
    (he : eval (.Call (.Name x fp) [e₁] [] pos) env = (do callWith pos (← eval (.Name x fp) env) [] (backTo pos (starEach [e₁] env)) (backToKw pos (keywordEach [] env))) := by rfl)
    (he₁ : backTo pos (starEach [e₁] env) = [(false, eval e₁ env)] := by rfl) (hd : (x == ("__debug__" : Str)) = false := by decide) : wpAny (model prog w) A (eval (.Call (.Name x fp) [e₁] [] pos) env) Q E s := by
  refine Call_ (ldb S V hx hu hv ?_ hd) he
  rw [he₁]
  exact callWith_excType rfl (evalArgs_plain (spliced_cons (wpAny_mono h (fun v₁ s₁ q => spliced_nil q) fun _ _ e => e)))
/-- enumerate made over a list that stays -/
theorem enum_ {l : Addr} {xs : List Value} {Q : Value → Shared → Prop} (S : St mg mb B s.heap ob) (hl : Lst B l xs)
    (h : ∀ e it h', St mg mb B h' ob → (∀ b ∈ [e, it], (∀ o, ¬ B b o) ∧ b ∉ ob.map (·.1)) → (∀ b ∈ [e, it, l], b ∉ ob.map (·.1)) → e ≠ it → l ≠ e → l ≠ it →
      (∃ old, IsEnum h' e it (0 : Nat) old) → h'.IsListIter it l 0 → h'.IsList l xs.toArray → Q (.ref e) { s with heap := h' }) : wpAny (model prog w) A (call (.type "enumerate") [.ref l]) Q E s := by
  have hL := (hl.mono S.hp).isList
  refine call_enumerate_list hL fun h' he hit hsz hk => ?_
  have off : ∀ b, s.heap.objs.size ≤ b → (∀ o, ¬ B b o) ∧ b ∉ ob.map (·.1) := fun b hb => ⟨fun o e => absurd (Heap.lt_size (S.keep b o e)) (Nat.not_lt.mpr hb), fun hm => by
    obtain ⟨o, ho⟩ := S.there hm
    exact absurd (Heap.lt_size ho) (Nat.not_lt.mpr hb)⟩
  obtain ⟨o, ho, hp⟩ := id hl
  have hlt := Heap.lt_size (S.keep _ _ ho)
  refine h _ _ h' (S.grow hk) ?_ ?_ (Nat.succ_ne_self _) (Nat.ne_of_lt (Nat.lt_succ_of_lt hlt)) (Nat.ne_of_lt hlt) ⟨_, he⟩ hit (hL.at fun o e => hk l o e)
  · intro b hb
    simp at hb
    rcases hb with rfl | rfl
    · exact off _ (by omega)
    · exact off _ (by omega)
  · intro b hb
    simp at hb
    rcases hb with rfl | rfl | rfl
    · exact (off _ (by omega)).2
    · exact (off _ (by omega)).2
    · exact fun hm => (S.subMx _ _ ho).2 hm
/-- the iterator of a list that stays -/
theorem iter_ {l : Addr} {xs : List Value} {Q : Value → Shared → Prop} (S : St mg mb B s.heap ob) (hl : Lst B l xs)
    (h : ∀ it h', St mg mb B h' ob → (∀ b ∈ [it], (∀ o, ¬ B b o) ∧ b ∉ ob.map (·.1)) → (∀ b ∈ [it, l], b ∉ ob.map (·.1)) → l ≠ it → h'.IsListIter it l 0 → h'.IsList l xs.toArray → Q (.ref it) { s with heap := h' }) :
    wpAny (model prog w) A (pyIter (.ref l)) Q E s := by
  have hL := (hl.mono S.hp).isList
  refine wpAny_pyIter_list hL ?_
  have hk : ∀ b o, s.heap.get? b = some o → (s.heap.push { cls := .type "list_iterator", data := .fields #[.ref l, .int 0 0] }).get? b = some o := fun b o e => Heap.get?_push_of_some _ e
  have off : (∀ o, ¬ B s.heap.objs.size o) ∧ s.heap.objs.size ∉ ob.map (·.1) := ⟨fun o e => absurd (Heap.lt_size (S.keep _ o e)) (Nat.lt_irrefl _), fun hm => by
    obtain ⟨o, ho⟩ := S.there hm
    exact absurd (Heap.lt_size ho) (Nat.lt_irrefl _)⟩
  obtain ⟨o, ho, hp⟩ := id hl
  have hlt := Heap.lt_size (S.keep _ _ ho)
  refine h _ _ (S.grow hk) ?_ ?_ (Nat.ne_of_lt hlt) ⟨_, Heap.get?_push_size _ rfl, rfl, rfl⟩ (hL.at fun o e => hk l o e)
  · intro b hb; rw [List.mem_singleton.mp hb]; exact off
  · intro b hb
    simp at hb
    rcases hb with rfl | rfl
    · exact off.2
    · exact fun hm => (S.subMx _ _ ho).2 hm
end
end Mine
end
/-! ## F4 -/
section
set_option maxRecDepth 100000
set_option maxHeartbeats 4000000
open PySem PySem.Calls PySem.W PyProof.Rows
namespace Mine
def Pairs (X : Rl) (l : Addr) (rs : List (Int × Int)) : Prop :=
  ∃ ts : List Addr, Lst X l (ts.map Value.ref) ∧ ts.length = rs.length ∧ ∀ (i : Nat) (p : Int × Int), rs[i]? = some p → ∃ t u v, ts[i]? = some t ∧ Tup X t [.int p.1 u, .int p.2 v]
theorem Pairs.mono {X Y : Rl} {l : Addr} {rs : List (Int × Int)} (x : Pairs X l rs) (k : Sub X Y) : Pairs Y l rs :=
  let ⟨ts, h1, h2, h3⟩ := x
  ⟨ts, h1.mono k, h2, fun i p hi => let ⟨t, u, v, g1, g2⟩ := h3 i p hi; ⟨t, u, v, g1, g2.mono k⟩⟩
theorem Pairs.at {h : Heap} {l : Addr} {rs : List (Int × Int)} (x : Pairs (Hp h) l rs) : PairsAt h l rs :=
  let ⟨ts, h1, h2, h3⟩ := x; ⟨ts, h1.isList, h2, h3⟩
/-- new in s', or one of these -/
def New (s s' : Shared) (as : List Addr) : Rl := fun b o => s'.heap.get? b = some o ∧ (s.heap.get? b = none ∨ b ∈ as)
def Rs (X : Rl) (h : Heap) (as : List Addr) : Rl := fun b o => X b o ∧ (h.get? b = none ∨ b ∈ as)
theorem Rs.sub {X : Rl} {h : Heap} {as : List Addr} : Sub (Rs X h as) X := fun _ _ e => e.1
theorem Rs.mono {X Y : Rl} {h : Heap} {as : List Addr} (k : Sub X Y) : Sub (Rs X h as) (Rs Y h as) := fun b o e => ⟨k b o e.1, e.2⟩

section
variable {prog : Program} {w : World} {A : Around} {E : Value → Shared → Prop} {s : Shared} {mg mb : Str → Option Value} {B : Rl} {ob : Ob}
theorem eqPair {T T' : Addr} {a b c d : Int} {t₁ t₂ t₃ t₄ : Tok} {Q : Value → Shared → Prop} (h1 : s.heap.IsTuple T #[.int a t₁, .int b t₂]) (h2 : s.heap.IsTuple T' #[.int c t₃, .int d t₄]) (hu : A.units + 64 < cLine)
    (h : Q (.bool (decide (a = c ∧ b = d))) s) : wpAny (model prog w) A (compareOp .Eq (.ref T) (.ref T')) Q E s := by
  obtain ⟨o, ho, hc, n, hd⟩ := h1
  obtain ⟨o', ho', hc', n', hd'⟩ := h2
  refine eq_dataH (Reads.tuple (vs := #[.int a t₁, .int b t₂]) ho hc hd (.cons (.int a t₁) (.cons (.int b t₂) .nil))) (Reads.tuple (vs := #[.int c t₃, .int d t₄]) ho' hc' hd' (.cons (.int c t₃) (.cons (.int d t₄) .nil))) ?_ ?_ hu ?_
  · simp [SeqAt.shaped, PyData.canLay0, PyData.canLayAll0, PyData.depth, PyData.depthAll]
  · simp [SeqAt.shaped, PyData.canLay0, PyData.canLayAll0, PyData.depth, PyData.depthAll]
  · have e : PyData.eqv (.tuple [.int a, .int b]) (.tuple [.int c, .int d]) = decide (a = c ∧ b = d) := by
      simp only [PyData.eqv, PyData.eqvAll, Bool.and_true]
      by_cases h1 : a = c <;> by_cases h2 : b = d <;> simp [h1, h2]
    rw [e]; exact h

theorem intsApp {vs ws : List Value} {ns ms : List Int} (h : IntsAre vs ns) (k : IntsAre ws ms) : IntsAre (vs ++ ws) (ns ++ ms) := by
  induction h with
  | nil => exact k
  | cons n t _ ih => exact .cons n t ih
theorem intsOne (n : Int) (t : Tok) : IntsAre [.int n t] [n] := .cons n t .nil
theorem intsSplit {ns : List Int} {m : Int} : ∀ {vs : List Value}, IntsAre vs (ns ++ [m]) → ∃ ws t, vs = ws ++ [.int m t] ∧ IntsAre ws ns := by
  induction ns with
  | nil => intro vs h; cases h with | cons n t h => cases h; exact ⟨[], t, rfl, .nil⟩
  | cons a r ih =>
    intro vs h
    cases h with
    | cons n t h =>
      obtain ⟨ws, t', rfl, hw⟩ := ih h
      exact ⟨.int a t :: ws, t', rfl, .cons a t hw⟩
theorem intsAt {vs : List Value} {ns : List Int} (h : IntsAre vs ns) : ∀ {i : Nat} {v : Value}, vs[i]? = some v → ∃ n t, ns[i]? = some n ∧ v = .int n t := by
  induction h with
  | nil => intro i v h; simp at h
  | cons n t _ ih =>
    intro i v h
    cases i with
    | zero => simp at h; exact ⟨n, t, by simp, h.symm⟩
    | succ i => simp only [List.getElem?_cons_succ] at h ⊢; exact ih h

abbrev wNames : List Str := ["units", "rules", "k", "pair", "row", "number"]

theorem written_ok {rs : List (Int × Int)} {us : List Int} {lu lr a : Addr} {R : Result → Shared → Prop} (W : Wd mg mb s.heap) (ha : mg (defAt 12).name = some (.ref a)) (hu : Ints (Hp s.heap) lu us) (hr : Pairs (Hp s.heap) lr rs)
    (hlen : us.length ≤ 1000) (Rm : Room A 5 100) (h : ∀ s' r, Goes s s' → Ints (New s s' [lu]) r (written rs us) → R (.ok (.ret (.ref r))) s') :
    codeAny (model prog w) A (.call (.ref a) ⟨[.ref lu, .ref lr], []⟩) R s := by
  refine enter (d := 4) (u := 90) 12 (by decide) ["units", "rules"] ["k", "pair", "row", "number"] ["enumerate"] W ha (Rm.le (by omega) (by omega)) (by decide +kernel) (fun _ _ _ => rfl) rfl rfl ?_
  intro L h₁ tk env A' E V Rm' S
  change Ev env L wNames [] _ at V
  change St mg mb _ h₁ [(L, nsP wNames [some (.ref lu), some (.ref lr), none, none, none, none])] at S
  obtain ⟨ts, hrl, hrlen, hrp⟩ := id hr
  refine wpAny_execs_cons (wpAny_For ?_)
  refine tcall1 (id := "enumerate") S V (by decide) (by decide) (by rfl) (ldl 0 1 S V rfl rfl rfl ?_)
  refine enum_ S hrl fun e it h₂ S₂ hwr hfp hei hle hli hE hI hL => ?_
  refine wpAny_pyIter_enum hE.choose_spec ?_
  refine for_wk (Wk.enum Rm'.hh e it lr hei hle hli (ts.map Value.ref) _ _ _) s S₂ hwr hfp (Side.refl s) (fun _ hg => (nomatch hg)) ⟨hE, hI, hL⟩
    (fun i ob X => ∃ lu', ob = [(L, nsP wNames [some (.ref lu'), some (.ref lr), none, none, none, none])] ∧ Ints (Rs X s.heap [lu]) lu' (wr rs us i))
    ⟨lu, rfl, let ⟨vs, ⟨o, ho, hp⟩, hi⟩ := hu; ⟨vs, ⟨o, ⟨ho, .inr (by simp)⟩, hp⟩, hi⟩⟩ (fun i ob X Y k ⟨l, h1, h2⟩ => ⟨l, h1, h2.mono (Rs.mono k)⟩) ?_ ?_
  · rintro i v B' ob₁ s₁ E₁ hi ⟨lu', rfl, hlu⟩ hB S₃ ⟨T, t, x, rfl, hx, hT⟩ sd₁ hadr
    have hi' : i < rs.length := by rw [← hrlen]; simpa using hi
    obtain ⟨p, hp⟩ : ∃ p, rs[i]? = some p := ⟨_, List.getElem?_eq_getElem hi'⟩
    obtain ⟨tp, u₁, u₂, htp, hTp⟩ := hrp i p hp
    have hxe : x = .ref tp := by rw [List.getElem?_map, htp] at hx; exact (Option.some.inj hx).symm
    subst hxe
    change St mg mb B' s₁.heap [(L, nsP wNames [some (.ref lu'), some (.ref lr), none, none, none, none]), (e, _), (it, _)] at S₃
    refine asg2 0 2 3 S₃ V Rm'.hh (hT.mono S₃.hp).isTup rfl rfl rfl fun h₂ tk₂ S₄ => ?_
    change St mg mb B' h₂ [(L, nsP wNames [some (.ref lu'), some (.ref lr), some (.int i t), some (.ref tp), none, none]), (e, _), (it, _)] at S₄
    refine wpAny_execs_cons (wpAny_Assign_Name (nil_ S₄ fun row h₃ S₅ => stl 0 4 S₅ V rfl rfl fun h₄ S₆ => ?_))
    change St mg mb B' h₄ [(L, nsP wNames [some (.ref lu'), some (.ref lr), some (.int i t), some (.ref tp), some (.ref row), none]), (e, _), (it, _), (row, listP [])] at S₆
    obtain ⟨vs, hlv, hiv⟩ := hlu
    have hlvB : Lst B' lu' vs := hlv.mono Rs.sub
    have hvl : vs.length = (wr rs us i).length := hiv.length
    refine wpAny_execs_cons (wpAny_For (ldl 0 0 S₆ V rfl rfl rfl (iter_ S₆ hlvB fun it₂ h₅ S₇ hwr₂ hfp₂ hne₂ hI₂ hL₂ => ?_)))
    refine for_wk (Wk.list Rm'.hh it₂ lu' hne₂ vs _ _) s₁ S₇ hwr₂ hfp₂ (Side.refl s₁) (fun _ hg => (nomatch hg)) ⟨hI₂, hL₂⟩
      (fun j ob X => ∃ xs, ob = [(L, nsP wNames [some (.ref lu'), some (.ref lr), some (.int i t), some (.ref tp), some (.ref row), none]), (e, fun o => s₁.heap.get? e = some o), (it, fun o => s₁.heap.get? it = some o), (row, listP xs)] ∧ IntsAre xs (((wr rs us i).take j).foldl (stepP p (256 + (i : Int))) []))
      ⟨[], rfl, by simpa using IntsAre.nil⟩ (fun _ _ _ _ _ h => h) ?_ ?_
    · rintro j v B₂ ob₂ s₂ E₂ hj ⟨xs, rfl, hxs⟩ hB₂ S₈ hv sd₂ hadr₂
      obtain ⟨n, tn, hn, rfl⟩ := intsAt hiv hv
      change St mg mb B₂ s₂.heap [(L, nsP wNames [some (.ref lu'), some (.ref lr), some (.int i t), some (.ref tp), some (.ref row), none]), (e, fun o => s₁.heap.get? e = some o), (it, fun o => s₁.heap.get? it = some o), (row, listP xs), (it₂, fun o => s₂.heap.get? it₂ = some o)] at S₈
      refine assign_Name (stl 0 5 S₈ V rfl rfl fun h₆ S₉ => ?_)
      change St mg mb B₂ h₆ [(L, nsP wNames [some (.ref lu'), some (.ref lr), some (.int i t), some (.ref tp), some (.ref row), some (.int n tn)]), (e, fun o => s₁.heap.get? e = some o), (it, fun o => s₁.heap.get? it = some o), (row, listP xs), (it₂, fun o => s₂.heap.get? it₂ = some o)] at S₉
      have hfold : ((wr rs us i).take (j + 1)).foldl (stepP p (256 + (i : Int))) [] = stepP p (256 + (i : Int)) (((wr rs us i).take j).foldl (stepP p (256 + (i : Int))) []) n := by
        rw [List.take_add_one, hn]; simp
      generalize hg : ((wr rs us i).take j).foldl (stepP p (256 + (i : Int))) [] = row₀ at hxs hfold
      have hxl : xs.length ≤ 1000 := by
        have h1 := foldl_stepP_length p (256 + (i : Int)) ((wr rs us i).take j) []
        have h2 := wr_length rs us i
        have h3 := hxs.length
        rw [hg] at h1
        simp at h1
        omega
      refine wpAny_execs_cons (wpAny_If (isTrue_and (wpAny_isTrue_Compare1 (ldl 0 4 S₉ V rfl rfl rfl (nil_ S₉ fun tmp h₇ S₁₀ => ?_)))))
      refine ke_ne_ints (S₁₀.at 3 rfl).isList (S₁₀.at 5 rfl).isList hxs .nil (by have := Rm'.hu; omega) (wpAny_truthy_bool ?_)
      -- the two ends of a turn
      have fin : ∀ (h' : Heap) (tk' : Nat) (ys : List Value) (tail : Ob), St mg mb B₂ h' ([(L, nsP wNames [some (.ref lu'), some (.ref lr), some (.int i t), some (.ref tp), some (.ref row), some (.int n tn)]), (e, fun o => s₁.heap.get? e = some o), (it, fun o => s₁.heap.get? it = some o), (row, listP ys), (it₂, fun o => s₂.heap.get? it₂ = some o)] ++ tail) →
          IntsAre ys (stepP p (256 + (i : Int)) row₀ n) →
          ∃ ob₃ B₃, (∃ xs, ob₃ = [(L, nsP wNames [some (.ref lu'), some (.ref lr), some (.int i t), some (.ref tp), some (.ref row), none]), (e, fun o => s₁.heap.get? e = some o), (it, fun o => s₁.heap.get? it = some o), (row, listP xs)] ∧ IntsAre xs (((wr rs us i).take (j + 1)).foldl (stepP p (256 + (i : Int))) [])) ∧
            ob₃.map (·.1) = [L, e, it, row] ∧ Sub B₂ B₃ ∧ St mg mb B₃ h' (ob₃ ++ keepers [it₂] s₂.heap) ∧ Side s₂ { s₂ with heap := h', toks := tk' } := by
        intro h' tk' ys tail S' hys
        refine ⟨_, B₂, ⟨ys, rfl, by rw [hfold]; exact hys⟩, rfl, Sub.refl _, ?_, Side.refl s₂⟩
        have S'' := (S'.sub (List.sublist_append_left _ _)).wk 0 rfl (nsP.weak (lv' := [some (.ref lu'), some (.ref lr), some (.int i t), some (.ref tp), some (.ref row), none]) ⟨.inr rfl, .inr rfl, .inr rfl, .inr rfl, .inr rfl, .inl rfl, trivial⟩)
        exact S''
      have app : ∀ (h' : Heap) (tk' : Nat) (tail : Ob) (E' : Value → Shared → Prop) (Q' : Flow → Shared → Prop) (o elt : PySem.Expr) (apos pos spos : Pos) (x₁ x₂ : Pos), o = .Name "row" x₁ → elt = .Name "number" x₂ → (apos.endLine == pos.line) = true →
          St mg mb B₂ h' ([(L, nsP wNames [some (.ref lu'), some (.ref lr), some (.int i t), some (.ref tp), some (.ref row), some (.int n tn)]), (e, fun o => s₁.heap.get? e = some o), (it, fun o => s₁.heap.get? it = some o), (row, listP xs), (it₂, fun o => s₂.heap.get? it₂ = some o)] ++ tail) →
          stepP p (256 + (i : Int)) row₀ n = row₀ ++ [n] →
          (∀ s₃, (∃ ob₃ B₃, (∃ xs, ob₃ = [(L, nsP wNames [some (.ref lu'), some (.ref lr), some (.int i t), some (.ref tp), some (.ref row), none]), (e, fun o => s₁.heap.get? e = some o), (it, fun o => s₁.heap.get? it = some o), (row, listP xs)] ∧ IntsAre xs (((wr rs us i).take (j + 1)).foldl (stepP p (256 + (i : Int))) [])) ∧
            ob₃.map (·.1) = [L, e, it, row] ∧ Sub B₂ B₃ ∧ St mg mb B₃ s₃.heap (ob₃ ++ keepers [it₂] s₂.heap) ∧ Side s₂ s₃) → Q' .next s₃) →
          wpAny (model prog w) A' (execs [.Expr (.Call (.Attribute o "append" apos) [elt] [] pos) spos] env) Q' E' { s₂ with heap := h', toks := tk' } := by
        rintro h' tk' tail E' Q' o elt apos pos spos x₁ x₂ rfl rfl hline S' hst hQ
        refine wpAny_execs_cons (appendS_ (ldl 0 4 S' V rfl rfl rfl ⟨row, xs, rfl, S'.at 3 rfl, ldl 0 5 S' V rfl rfl rfl (append_ 3 S' rfl (by rw [sizeLine_eq]; omega) fun h₈ S'' => wpAny_execs_nil (hQ _ ?_))⟩) rfl (by unfold interactive; rw [V.kind]; rfl) rfl rfl hline rfl)
        exact fin h₈ _ _ tail S'' (by rw [hst]; exact intsApp hxs (intsOne n tn))
      by_cases hr0 : row₀ = []
      · rw [decide_eq_true hr0]
        simp only [Bool.not_true, Bool.false_eq_true, if_false]
        refine app _ _ [(tmp, listP [])] _ _ _ _ _ _ _ _ _ rfl rfl ?_ S₁₀ (by rw [hr0]; rfl) fun s₃ q => wpAny_execs_nil q
        rfl
      · rw [decide_eq_false hr0]
        simp only [Bool.not_false, if_true]
        obtain ⟨ys, y, rfl⟩ : ∃ ys y, row₀ = ys ++ [y] := ⟨_, _, (List.dropLast_concat_getLast hr0).symm⟩
        obtain ⟨ws, ty, rfl, hws⟩ := intsSplit hxs
        refine isTrue_and (wpAny_isTrue_Compare1 (Tuple_ (args_cons (Subscript_ (ldl 0 4 S₁₀ V rfl rfl rfl (UnaryOp_ (wpAny_Constant_int (P.neg_int (last_ 3 (x := .int y ty) S₁₀ rfl (by simp) (args_cons (ldl 0 5 S₁₀ V rfl rfl rfl (args_nil ?_))))))))))))
        refine newTuple_ S₁₀ (by rw [sizeLine_eq]; show 2 ≤ 16777216; decide) fun T₂ h₈ S₁₁ => ?_
        refine ldl 0 3 S₁₁ V rfl rfl rfl ?_
        refine eqPair (S₁₁.at 6 rfl).isTup (((hTp.mono hB).mono hB₂).mono S₁₁.hp).isTup (by have := Rm'.hu; omega) (wpAny_truthy_bool ?_)
        by_cases hm : y = p.1 ∧ n = p.2
        · rw [decide_eq_true hm]
          simp only [if_true]
          refine isTrue_and_nil ?_
          simp only [if_true]
          refine wpAny_execs_cons (wpAny_Assign_Subscript (wpAny_BinOp (wpAny_Constant_int (ldl 0 2 S₁₁ V rfl rfl rfl (add_int (ldl 0 4 S₁₁ V rfl rfl rfl (UnaryOp_ (wpAny_Constant_int (P.neg_int ?_)))))))))
          refine setLast_ 3 S₁₁ rfl (by simp) fun h₉ S₁₂ => wpAny_execs_nil (wpAny_execs_nil ?_)
          refine fin h₉ _ _ [(tmp, listP []), (T₂, tupP _)] S₁₂ ?_
          have e1 : stepP p (256 + (i : Int)) (ys ++ [y]) n = ys ++ [256 + (i : Int)] := by simp [stepP, hm]
          rw [e1]
          simpa using intsApp hws (intsOne _ _)
        · rw [decide_eq_false hm]
          simp only [Bool.false_eq_true, if_false]
          refine app _ _ [(tmp, listP []), (T₂, tupP _)] _ _ _ _ _ _ _ _ _ rfl rfl ?_ S₁₁ (by simp [stepP, hm]) fun s₃ q => wpAny_execs_nil q
          rfl
    · rintro ob₃ B₃ s₃ ⟨xs, rfl, hxs⟩ hB₃ S₈ sd₂ hadr₂
      refine wpAny_execs_cons (wpAny_Assign_Name (ldl 0 4 S₈ V rfl rfl rfl (stl 0 0 S₈ V rfl rfl fun h₆ S₉ => wpAny_execs_nil ?_)))
      have hall : ((wr rs us i).take vs.length).foldl (stepP p (256 + (i : Int))) [] = wr rs us (i + 1) := by
        rw [hvl, List.take_length]
        show _ = (match rs[i]? with | some p => pass p (256 + (i : Int)) (wr rs us i) | none => wr rs us i)
        rw [hp]; rfl
      rw [hall] at hxs
      have S₁₀ := (S₉.wk 0 rfl (nsP.weak (lv' := [some (.ref row), some (.ref lr), none, none, none, none]) ⟨.inr rfl, .inr rfl, .inl rfl, .inl rfl, .inl rfl, .inl rfl, trivial⟩))
      have fr : s.heap.get? row = none := S₁₀.new (fun b o q => hB₃ b o (hB b o q)) 3 rfl
      obtain ⟨S₁₁, hB₄, hab⟩ := St.absorb (ob := [(L, nsP wNames [some (.ref row), some (.ref lr), none, none, none, none]), (e, fun o => s₁.heap.get? e = some o), (it, fun o => s₁.heap.get? it = some o)]) (tl := [(row, listP xs)]) S₁₀
      obtain ⟨o, ho, hp⟩ := hab row _ (List.mem_singleton.mpr rfl)
      exact ⟨_, _, ⟨row, rfl, xs, ⟨o, ⟨ho, .inl fr⟩, hp⟩, hxs⟩, rfl, hB₃.trans hB₄, S₁₁, sd₂⟩
  · rintro ob' B' s' ⟨lu', rfl, hlu⟩ hB S₃ sd₁ hadr
    refine wpAny_execs_cons (wpAny_Return_some (ldl 0 0 S₃ V rfl rfl rfl ?_))
    have el : (ts.map Value.ref).length = rs.length := by simp [hrlen]
    rw [el] at hlu
    exact h _ _ ⟨fun b o e => S₃.keep b o (hB b o e), sd₁⟩ (hlu.mono (Y := New s s' [lu]) fun b o e => ⟨S₃.keep b o e.1, e.2⟩)
end
end Mine
end
/-! ## F5 -/
section
set_option maxRecDepth 100000
set_option maxHeartbeats 4000000
open PySem PySem.Calls PySem.W PyProof.Rows
namespace Mine
section
variable {prog : Program} {w : World} {A : Around} {R : Result → Shared → Prop} {s : Shared}
theorem compLoop_any {elt target iter : PySem.Expr} {ifs : List PySem.Expr} {scope : Scope} {pos : Pos} {it acc : Value} {env : Env} (I : Nat → Shared → Prop)
    (turn : ∀ n s, I n s → ∀ E, wpAny (model prog w) A (pyNext it) (fun r s₁ => match r with
      | none => R (.ok .next) s₁
      | some v => wpAny (model prog w) A (letOwnedTupleGo target it v) (fun _ s₁' => wpAny (model prog w) A (assign target env v) (fun _ s₂ =>
          wpAny (model prog w) A (forIn ifs true fun c r => if r = true then do let ok ← isTrue c env (eval c env); pure (ForInStep.yield ok) else pure (ForInStep.yield r)) (fun ok s₃ =>
            if ok = true then wpAny (model prog w) A (eval elt env) (fun x s₄ =>
              wpAny (model prog w) A (call (.builtin "list.append") [acc, x]) (fun _ s₅ => ∃ m, m < n ∧ I m s₅) E s₄) E s₃
            else ∃ m, m < n ∧ I m s₃) E s₂) E s₁') E s₁) E s)
    (n : Nat) (h : I n s) :
    codeAny (model prog w) A (.compLoop (.ListComp elt [⟨target, iter, ifs, 0⟩] scope pos) 0 it acc env) R s := by
  refine codeAny_loop rfl I (fun n s hI => ?_) n h
  show wpAny _ A ((compTurn (.ListComp elt [⟨target, iter, ifs, 0⟩] scope pos) 0 it acc env).onRaise (fun x => do noteFrame x env; theTreesLotGoes x)) _ _ s
  refine wpAny_noted ?_
  rw [compTurn_list]
  refine wpAny_bind (wpAny_standAt (wpAny_bind (wpAny_mono (turn n s hI _) (fun r s₁ h₁ => ?_) fun _ _ h' => h')))
  cases r with
  | none => exact wpAny_pure h₁
  | some v =>
    refine wpAny_bind (wpAny_mono h₁ (fun _ s₁' h₁' => ?_) fun _ _ h' => h')
    refine wpAny_bind (wpAny_mono h₁' (fun _ s₂ h₂ => wpAny_bind (wpAny_mono h₂ (fun ok s₃ h₃ => ?_) fun _ _ h' => h')) fun _ _ h' => h')
    cases ok with
    | false => exact wpAny_pure ⟨rfl, h₃⟩
    | true =>
      exact wpAny_bind (wpAny_bind (wpAny_mono h₃ (fun x s₄ h₄ => wpAny_bind (wpAny_mono h₄ (fun _ s₅ h₅ => wpAny_pure (wpAny_pure ⟨rfl, h₅⟩)) fun _ _ h' => h')) fun _ _ h' => h'))
end

def lvN (names : List Str) : List (Option Value) := List.replicate names.length none
theorem nsP.none {names : List Str} {lv : List (Option Value)} (o : Obj) (h : nsP names lv o) : nsP names (lvN names) o :=
  let ⟨m, es, ep, h1, h2, h3, h4⟩ := h
  ⟨m, es, ep, h1, h2, h3, h4.weak fun i v e => by
    simp only [lvN, List.getElem?_replicate] at e
    split at e <;> simp at e⟩

section
variable {prog : Program} {w : World} {A : Around} {s : Shared} {mg mb : Str → Option Value} {B : Rl} {ob : Ob}
/-- what a turn of a comprehension leaves behind -/
def TurnEnd (mg mb : Str → Option Value) (ob : Ob) (D C : Addr) (nm : List Str) (K : Ob) (Inv : Rl → Prop) (B' : Rl) (ys : List Value) (s₁ s₄ : Shared) : Prop :=
  ∃ B₄ lv tl, Inv B₄ ∧ Sub B' B₄ ∧ St mg mb B₄ s₄.heap (ob ++ [(D, listP ys), (C, nsP nm lv)] ++ K ++ tl) ∧ Side s₁ s₄

theorem comp_wk {R : Result → Shared → Prop} {elt target iter : PySem.Expr} {ifs : List PySem.Expr} {scope : Scope} {pos : Pos} {cenv : Env} {I D C : Addr} {wr fp : List Addr} {gs : List Nat} {n : Nat} {P : Nat → Value → Rl → Prop} {Stt : Nat → Shared → Prop} {Mid : Nat → Value → Shared → Prop} {nm : List Str}
    (W : Wk prog w A I wr fp gs n target P Stt Mid) (s₀ : Shared) (hsz : n ≤ 1000000) (S : St mg mb B s.heap (ob ++ [(D, listP []), (C, nsP nm (lvN nm))])) (hwr : ∀ b ∈ wr, (∀ o, ¬ B b o) ∧ b ∉ (ob ++ [(D, listP []), (C, nsP nm (lvN nm))]).map (·.1)) (hfp : ∀ b ∈ fp, b ∉ (ob ++ [(D, listP []), (C, nsP nm (lvN nm))]).map (·.1)) (hsd : Side s₀ s) (hgs : ∀ g ∈ gs, s₀.gens[g]? = none)
    (hst : Stt 0 s) (Inv : Nat → List Value → Rl → Prop) (h0 : Inv 0 [] B) (hmono : ∀ i ys X Y, Sub X Y → Inv i ys X → Inv i ys Y)
    (turn : ∀ i v ys B' s₁ E, i < n → Inv i ys B' → Sub B B' → St mg mb B' s₁.heap (ob ++ [(D, listP ys), (C, nsP nm (lvN nm))] ++ keepers wr s₁.heap) → P i v B' → Side s₀ s₁ →
      wpAny (model prog w) A (assign target cenv v) (fun _ s₂ =>
        wpAny (model prog w) A (forIn ifs true fun c r => if r = true then do let ok ← isTrue c cenv (eval c cenv); pure (ForInStep.yield ok) else pure (ForInStep.yield r)) (fun ok s₃ =>
          if ok = true then wpAny (model prog w) A (eval elt cenv) (fun x s₄ => TurnEnd mg mb ob D C nm (keepers wr s₁.heap) (Inv (i + 1) (ys ++ [x])) B' ys s₁ s₄) E s₃
          else TurnEnd mg mb ob D C nm (keepers wr s₁.heap) (Inv (i + 1) ys) B' ys s₁ s₃) E s₂) E s₁)
    (done : ∀ ys B' s', Inv n ys B' → Sub B B' → St mg mb B' s'.heap (ob ++ [(D, listP ys), (C, nsP nm (lvN nm))]) → Side s₀ s' → R (.ok .next) s') :
    codeAny (model prog w) A (.compLoop (.ListComp elt [⟨target, iter, ifs, 0⟩] scope pos) 0 (.ref I) (.ref D) cenv) R s := by
  have adr : ∀ ys, (ob ++ [(D, listP ys), (C, nsP nm (lvN nm))]).map (·.1) = (ob ++ [(D, listP []), (C, nsP nm (lvN nm))]).map (·.1) := fun ys => by simp
  refine compLoop_any (fun k s' => ∃ i ys B', k = n - i ∧ i ≤ n ∧ ys.length ≤ i ∧ Inv i ys B' ∧ Sub B B' ∧ St mg mb B' s'.heap (ob ++ [(D, listP ys), (C, nsP nm (lvN nm))]) ∧ (∀ b ∈ wr, (∀ o, ¬ B' b o)) ∧ Side s₀ s' ∧ Stt i s') ?_ n
    ⟨0, [], B, rfl, Nat.zero_le _, Nat.le_refl _, h0, Sub.refl B, S, fun b hb => (hwr b hb).1, hsd, hst⟩
  rintro k s' ⟨i, ys, B', rfl, hi, hyl, hI, hB, S', hw', sd', hst'⟩ E
  have hw₁ : ∀ b ∈ wr, (∀ o, ¬ B' b o) ∧ b ∉ (ob ++ [(D, listP ys), (C, nsP nm (lvN nm))]).map (·.1) := fun b hb => ⟨hw' b hb, by rw [adr]; exact (hwr b hb).2⟩
  by_cases hlt : i < n
  · refine W.item i s' _ _ hlt hst' fun v s₁ hP hM m₁ => ?_
    refine W.go i v s₁ _ _ hM fun s₂ hst₂ m₂ => ?_
    have S₁ := S'.mv hw₁ m₁
    have S₂ := S₁.mv hw₁ m₂
    have S₃ := (S₂.withKeepers hw₁ W.nd (W.here _ _ hst₂))
    have S₄ := S₃.max
    generalize hX : Mx ((ob ++ [(D, listP ys), (C, nsP nm (lvN nm))]) ++ keepers wr s₂.heap) s₂.heap = X at S₄
    have hB' : Sub B' X := hX ▸ S₃.subMx
    have hPX : P i v X := by
      refine W.mono i v _ _ ?_ hP
      rintro b o ⟨hn, ho⟩
      rw [← hX]
      have nw : b ∉ wr := fun hm => by obtain ⟨o', ho'⟩ := W.here _ _ hst' b hm; rw [hn] at ho'; cases ho'
      refine ⟨m₂.1 b o nw ho, fun hm => ?_⟩
      rw [List.map_append, keepers_fst] at hm
      rcases List.mem_append.mp hm with hm | hm
      · obtain ⟨o', ho'⟩ := S'.there hm; rw [hn] at ho'; cases ho'
      · exact nw hm
    have sd₂ := m₂.side (m₁.side sd' hgs) hgs
    -- what a turn's end gives
    have fin : ∀ (ys' : List Value) (s₄ s₅ : Shared) (_ : ys'.length ≤ i + 1) (B₄ : Rl) (lv : List (Option Value)) (tl : Ob), Inv (i + 1) ys' B₄ → Sub X B₄ → St mg mb B₄ s₅.heap (ob ++ [(D, listP ys'), (C, nsP nm lv)] ++ keepers wr s₂.heap ++ tl) → Side s₂ s₅ →
        ∃ m, m < n - i ∧ ∃ i ys B', m = n - i ∧ i ≤ n ∧ ys.length ≤ i ∧ Inv i ys B' ∧ Sub B B' ∧ St mg mb B' s₅.heap (ob ++ [(D, listP ys), (C, nsP nm (lvN nm))]) ∧ (∀ b ∈ wr, (∀ o, ¬ B' b o)) ∧ Side s₀ s₅ ∧ Stt i s₅ := by
      intro ys' s₄ s₅ hl B₄ lv tl hI₄ hs₄ T sd₅
      have T' := T.sub (List.sublist_append_left _ tl)
      refine ⟨n - (i + 1), by omega, i + 1, ys', B₄, rfl, hlt, hl, hI₄, (hB.trans hB').trans hs₄, ?_, fun b hb o e => ?_, sd₂.trans sd₅, ?_⟩
      · have T₂ := T'.sub (List.sublist_append_left _ (keepers wr s₂.heap))
        have T₃ := T₂.wk (ob.length + 1) (a := C) (P := nsP nm lv) (P' := nsP nm (lvN nm)) (by rw [List.getElem?_append_right (by omega)]; simp) (fun o h => nsP.none o h)
        have e : (ob ++ [(D, listP ys'), (C, nsP nm lv)]).set (ob.length + 1) (C, nsP nm (lvN nm)) = ob ++ [(D, listP ys'), (C, nsP nm (lvN nm))] := by
          rw [List.set_append_right _ _ (by omega)]; simp
        rw [e] at T₃
        exact T₃
      · exact (T'.own (b, fun o => s₂.heap.get? b = some o) (List.mem_append_right _ (List.mem_map.mpr ⟨b, hb, rfl⟩))).2 o e
      · refine W.frame _ _ _ hst₂ (fun b hb o ho => ?_) (fun g _ x e => sd₅.2.1 g x e)
        by_cases hbw : b ∈ wr
        · obtain ⟨o', ho', he⟩ := (T'.own (b, fun o => s₂.heap.get? b = some o) (List.mem_append_right _ (List.mem_map.mpr ⟨b, hbw, rfl⟩))).1
          have he' : s₂.heap.get? b = some o' := he
          rw [ho] at he'; cases he'
          exact ho'
        · refine T.keep b o (hs₄ b o ?_)
          rw [← hX]
          refine ⟨ho, fun hm => ?_⟩
          rw [List.map_append, keepers_fst] at hm
          rcases List.mem_append.mp hm with hm | hm
          · rw [adr] at hm; exact hfp b hb hm
          · exact hbw hm
    refine wpAny_mono (turn i v ys X s₂ E hlt (hmono _ _ _ _ hB' hI) (hB.trans hB') S₄ hPX sd₂) (fun _ s₃ h₃ => wpAny_mono h₃ (fun ok s₄ h₄ => ?_) fun _ _ e => e) fun _ _ e => e
    cases ok with
    | false =>
      simp only [Bool.false_eq_true, if_false] at h₄ ⊢
      obtain ⟨B₄, lv, tl, hI₄, hs₄, T, sd₅⟩ := h₄
      exact fin ys s₄ s₄ (by omega) B₄ lv tl hI₄ hs₄ T sd₅
    | true =>
      simp only [if_true] at h₄ ⊢
      refine wpAny_mono h₄ (fun x s₅ h₅ => ?_) fun _ _ e => e
      obtain ⟨B₄, lv, tl, hI₄, hs₄, T, sd₅⟩ := h₅
      have hj : (ob ++ [(D, listP ys), (C, nsP nm lv)] ++ keepers wr s₂.heap ++ tl)[ob.length]? = some (D, listP ys) := by simp
      refine append_ ob.length T hj (by rw [sizeLine_eq]; omega) fun h' T₂ => ?_
      have e : (ob ++ [(D, listP ys), (C, nsP nm lv)] ++ keepers wr s₂.heap ++ tl).set ob.length (D, listP (ys ++ [x])) = ob ++ [(D, listP (ys ++ [x])), (C, nsP nm lv)] ++ keepers wr s₂.heap ++ tl := by
        simp [List.append_assoc, List.set_append_right]
      rw [e] at T₂
      exact fin (ys ++ [x]) s₅ { s₅ with heap := h' } (by simp; omega) B₄ lv tl hI₄ hs₄ T₂ sd₅
  · have e : i = n := by omega
    subst e
    refine W.done s' _ _ hst' fun s₁ m₁ => ?_
    exact done ys B' s₁ hI hB (S'.mv hw₁ m₁) (m₁.side sd' hgs)
end

def closG (env : Env) : List (Str × NameKind) → List (Str × Addr) → List (Str × Addr)
  | [], acc => acc
  | (n, k) :: r, acc => closG env r (if k == .free then (n, (env.cells.lookup n).getD 0) :: acc else acc)
theorem closG_lookup (env : Env) (x : Str) : ∀ (l : List (Str × NameKind)) (acc : List (Str × Addr)), (∀ q ∈ acc, q.2 = (env.cells.lookup q.1).getD 0) → ((x, NameKind.free) ∈ l ∨ x ∈ acc.map (·.1)) → (closG env l acc).lookup x = some ((env.cells.lookup x).getD 0)
  | [], acc, ha, h => by
    have hx : x ∈ acc.map (·.1) := h.elim (fun e => nomatch e) id
    clear h
    induction acc with
    | nil => cases hx
    | cons q r ih =>
      show (q :: r).lookup x = _
      obtain ⟨y, c⟩ := q
      rw [List.lookup_cons]
      by_cases e : x = y
      · subst e
        simp only [beq_self_eq_true]
        exact congrArg some (ha (x, c) (.head _))
      · have : (x == y) = false := by simpa using e
        rw [this]
        refine ih (fun q hq => ha q (.tail _ hq)) ?_
        rcases List.mem_cons.mp hx with h | h
        · exact absurd h e
        · exact h
  | (n, k) :: r, acc, ha, h => by
    show (closG env r (if k == .free then (n, (env.cells.lookup n).getD 0) :: acc else acc)).lookup x = _
    refine closG_lookup env x r _ ?_ ?_
    · intro q hq
      split at hq
      · rcases List.mem_cons.mp hq with rfl | hq
        · rfl
        · exact ha q hq
      · exact ha q hq
    · rcases h with h | h
      · rcases List.mem_cons.mp h with h | h
        · cases h
          right; simp
        · exact .inl h
      · right
        split
        · simp [h]
        · exact h
theorem closure_is {scope : Scope} {env : Env} (h : ∀ p ∈ scope.names, p.2 = NameKind.free → (env.cells.lookup p.1).isSome = true) : closureFor scope env = pure (closG env scope.names []) := by
  simp only [closureFor]
  have gen : ∀ (l : List (Str × NameKind)) (acc : List (Str × Addr)), (∀ p ∈ l, p.2 = NameKind.free → (env.cells.lookup p.1).isSome = true) →
      (forIn l acc fun (x : Str × NameKind) (r : List (Str × Addr)) => (match x with
        | (name, kind) => if (kind == NameKind.free) = true then do
            let y ← cellOf env name
            pure (ForInStep.yield ((name, y) :: r))
          else pure (ForInStep.yield r) : Sem (ForInStep (List (Str × Addr))))) = pure (closG env l acc) := by
    intro l
    induction l with
    | nil => intro acc _; rfl
    | cons p r ih =>
      intro acc hp
      obtain ⟨n, k⟩ := p
      rw [List.forIn_cons]
      have ihr := fun acc => ih acc fun p hm => hp p (.tail _ hm)
      by_cases hk : k = .free
      · subst hk
        obtain ⟨c, hc⟩ := Option.isSome_iff_exists.mp (hp (n, .free) (.head _) rfl)
        have e : cellOf env n = pure c := by unfold cellOf; rw [hc]
        simp only [beq_self_eq_true, if_true, e, pure_bind]
        rw [ihr]
        simp [closG, hc]
      · have hb : (k == NameKind.free) = false := by simpa using hk
        simp only [hb, Bool.false_eq_true, if_false, pure_bind]
        rw [ihr]
        simp [closG, hb]
  exact (congrArg (· >>= pure) (gen scope.names [] h)).trans rfl

def compOk (sc : Scope) (names frees globs : List Str) : Bool :=
  names.all (fun x => decide (sc.names.lookup x = some .local)) && globs.all (fun x => decide (sc.names.lookup x = some .globalImplicit)) && decide names.Nodup && decide (sc.kind = .function) &&
  frees.all (fun x => decide (sc.names.lookup x = some .free)) && sc.names.all (fun p => decide (p.2 ≠ .cell) && (decide (p.2 ≠ .free) || frees.contains p.1) && (decide (p.2 ≠ .local) || decide (sc.names.lookup p.1 = some .local)))
theorem lookup_map {f : Str → NameKind → NameKind} : ∀ (l : List (Str × NameKind)) (x : Str), (l.map fun p => (p.1, f p.1 p.2)).lookup x = (l.lookup x).map (f x)
  | [], _ => rfl
  | (n, k) :: r, x => by
    rw [List.map_cons, List.lookup_cons, List.lookup_cons]
    by_cases e : x = n
    · subst e; simp
    · have : (x == n) = false := by simpa using e
      rw [this]; exact lookup_map r x
theorem relabel_lookup (scope : Scope) (env : Env) (x : Str) : (relabel scope env).names.lookup x = (scope.names.lookup x).map fun k => if (k == .free && env.scope.kind == .function && env.kindOf x == some .cell) then .cell else k := by
  have e : (relabel scope env).names = scope.names.map fun p => (p.1, (fun n k => if (k == NameKind.free && env.scope.kind == .function && env.kindOf n == some .cell) = true then NameKind.cell else k) p.1 p.2) := by
    unfold relabel
    refine List.map_congr_left fun p _ => ?_
    obtain ⟨n, k⟩ := p
    cases hc : (k == NameKind.free && env.scope.kind == .function && env.kindOf n == some .cell) <;> simp [hc]
  rw [e]
  exact lookup_map (f := fun n k => if (k == NameKind.free && env.scope.kind == .function && env.kindOf n == some .cell) = true then NameKind.cell else k) _ _
theorem ev_comp {scope : Scope} {env : Env} {L : Addr} {names : List Str} {cells cells' : List (Str × Addr)} {globs nm gl : List Str} (V : Ev env L names cells globs) (hs : ∀ p ∈ cells', p ∈ cells) (ok : compOk scope nm (cells'.map (·.1)) gl = true) :
    closureFor scope env = pure (closG env scope.names []) ∧ ∀ C, Ev (compEnvC scope (closG env scope.names []) C env) C nm cells' gl := by
  simp only [compOk, Bool.and_eq_true, Bool.or_eq_true, decide_eq_true_eq, List.all_eq_true] at ok
  obtain ⟨⟨⟨⟨⟨h1, h2⟩, h3⟩, h4⟩, h5⟩, h6⟩ := ok
  refine ⟨closure_is fun p hp hk => ?_, fun C => ⟨h4, rfl, V.gl, V.bi, fun x hx => ?_, fun p hp => ⟨?_, ?_⟩, fun x hx => ?_, h3⟩⟩
  · rcases (h6 p hp).1.2 with h | h
    · exact absurd hk h
    · obtain ⟨q, hq, e⟩ := List.mem_map.mp (List.contains_iff_mem.mp h)
      rw [← e, (V.kc q (hs q hq)).2]; rfl
  · show (relabel scope env).names.lookup x = _
    rw [relabel_lookup, h1 x hx]; rfl
  · show (relabel scope env).names.lookup p.1 = _
    rw [relabel_lookup, h5 p.1 (List.mem_map_of_mem hp)]
    simp [V.kind, (V.kc p (hs p hp)).1]
  · show (closG env scope.names []).lookup p.1 = _
    rw [closG_lookup env p.1 scope.names [] (fun q hq => absurd hq List.not_mem_nil) (.inl (mem_of_lookup (h5 p.1 (List.mem_map_of_mem hp))))]
    rw [(V.kc p (hs p hp)).2]; rfl
  · show (relabel scope env).names.lookup x = _
    rw [relabel_lookup, h2 x hx]; rfl

section
variable {prog : Program} {w : World} {A : Around} {E : Value → Shared → Prop} {s : Shared} {mg mb : Str → Option Value} {B : Rl} {ob : Ob}
/-- the block of a comprehension: its list, its names, its loop -/
theorem comp_block0 {elt target iter : PySem.Expr} {ifs : List PySem.Expr} {rest : List Comprehension} {scope : Scope} {pos : Pos} {env : Env} {L : Addr} {names : List Str} {cells cells' : List (Str × Addr)} {globs nm gl : List Str} {I : Addr} {wr fp : List Addr} {gs : List Nat} {n : Nat} {P : Nat → Value → Rl → Prop} {Stt : Nat → Shared → Prop} {Mid : Nat → Value → Shared → Prop}
    {K : Value → Addr → Result → Shared → Prop} (V : Ev env L names cells globs) (hs : ∀ p ∈ cells', p ∈ cells) (ok : compOk scope nm (cells'.map (·.1)) gl = true)
    (W : Wk0 prog w A I wr fp gs n target P Stt Mid) (S : St mg mb B s.heap ob) (hwr : ∀ b ∈ wr, (∀ o, ¬ B b o) ∧ b ∉ ob.map (·.1)) (hfp : ∀ b ∈ fp, b ∉ ob.map (·.1) ∧ b < s.heap.objs.size)
    (hst : Stt 0 s)
    (h : ∀ D C cenv h₁ tk, Ev cenv C nm cells' gl → St mg mb B h₁ (ob ++ [(D, listP []), (C, nsP nm (lvN nm))]) → (∀ b ∈ wr, (∀ o, ¬ B b o) ∧ b ∉ (ob ++ [(D, listP []), (C, nsP nm (lvN nm))]).map (·.1)) →
      (∀ b ∈ fp, b ∉ (ob ++ [(D, listP []), (C, nsP nm (lvN nm))]).map (·.1)) → Stt 0 { s with heap := h₁, toks := tk } →
      codeAny (model prog w) A (.compLoop (.ListComp elt (⟨target, iter, ifs, 0⟩ :: rest) scope pos) 0 (.ref I) (.ref D) cenv) (K (.ref D) C) { s with heap := h₁, toks := tk }) :
    wpAny (model prog w) A (newList []) (fun acc s₃ => wpAny (model prog w) A (newFunctionEnv scope env.globals (closG env scope.names []) [] env.qual none .none (some env)) (fun cenv s₄ =>
      codeAny (model prog w) A (.compStart (.ListComp elt (⟨target, iter, ifs, 0⟩ :: rest) scope pos) 0 (.ref I) acc { cenv with scope := relabel scope env }) (K acc cenv.locals) s₄) E s₃) E s := by
  have hE := (ev_comp V hs ok).2
  have hkind : scope.kind = .function := (hE 0).kind
  have hcell : ∀ x ∈ scope.names, x.2 ≠ .cell := by
    simp only [compOk, Bool.and_eq_true, Bool.or_eq_true, decide_eq_true_eq, List.all_eq_true] at ok
    exact fun x hx => (ok.2 x hx).1.1
  refine wpAny_newList ?_ (by rw [sizeLine_eq]; decide)
  refine wpAny_newFunctionEnv hcell (by intro y hy; simp at hy) (fun h₁ hns₁ hsb₁ => ?_) hkind
  have S₁ := S.push (o := { cls := .type "list", data := .seq ([] : List Value).toArray }) (listP []) ⟨rfl, rfl, 0, rfl⟩
  generalize hH2 : s.heap.push { cls := .type "list", data := .seq ([] : List Value).toArray } = H2 at hns₁ hsb₁ S₁ ⊢
  have hC : H2.objs.size = s.heap.objs.size + 1 := by rw [← hH2, Heap.size_push]
  have keep₂ : ∀ b o, H2.get? b = some o → h₁.get? b = some o := fun b o e => hsb₁.extBut b o (Nat.ne_of_lt (Heap.lt_size e)) (Heap.get?_push_of_some _ e)
  have keep₁ : ∀ b o, s.heap.get? b = some o → h₁.get? b = some o := fun b o e => keep₂ b o (by rw [← hH2]; exact Heap.get?_push_of_some _ e)
  have nC : H2.get? H2.objs.size = none := by
    cases q : H2.get? H2.objs.size with
    | none => rfl
    | some o => exact absurd (Heap.lt_size q) (Nat.lt_irrefl _)
  have S₂ : St mg mb B h₁ (ob ++ [(s.heap.objs.size, listP []), (H2.objs.size, nsP nm (lvN nm))]) := by
    have := S₁.add (a := H2.objs.size) (P := nsP nm (lvN nm)) keep₂ (At.of_ns hns₁ fun i x v _ e => by
      simp only [lvN, List.getElem?_replicate] at e
      split at e <;> simp at e) nC
    simpa [List.append_assoc] using this
  have low : ∀ b, b < s.heap.objs.size → b ∉ [s.heap.objs.size, H2.objs.size] := fun b hb hm => by
    rcases List.mem_cons.mp hm with e | hm
    · exact absurd hb (e ▸ Nat.lt_irrefl _)
    · rw [List.mem_singleton.mp hm, hC] at hb; omega
  have adr : ∀ b, b ∉ ob.map (·.1) → b < s.heap.objs.size → b ∉ (ob ++ [(s.heap.objs.size, listP []), (H2.objs.size, nsP nm (lvN nm))]).map (·.1) := fun b h1 h2 hm => by
    rw [List.map_append] at hm
    rcases List.mem_append.mp hm with hm | hm
    · exact h1 hm
    · exact low b h2 hm
  have hst₁ : ∀ tk, Stt 0 { s with heap := h₁, toks := tk } := fun tk => W.frame _ _ _ hst (fun b _ o e => keep₁ b o e) fun _ _ _ e => e
  have hlow : ∀ b ∈ wr, b < s.heap.objs.size := fun b hb => (hfp b (W.sub b hb)).2
  have loop := h s.heap.objs.size H2.objs.size (compEnvC scope (closG env scope.names []) H2.objs.size env) h₁ (s.toks + ([] : List (Str × Value)).length) (hE _) S₂ (fun b hb => ⟨(hwr b hb).1, adr b (hwr b hb).2 (hlow b hb)⟩) (fun b hb => adr b (hfp b hb).1 (hfp b hb).2) (hst₁ _)
  exact codeAny_compStart_list loop (W.self 0 _ _ _ (hst₁ _) loop)

theorem comp_block {elt target iter : PySem.Expr} {ifs : List PySem.Expr} {scope : Scope} {pos : Pos} {env : Env} {L : Addr} {names : List Str} {cells cells' : List (Str × Addr)} {globs nm gl : List Str} {I : Addr} {wr fp : List Addr} {gs : List Nat} {n : Nat} {P : Nat → Value → Rl → Prop} {Stt : Nat → Shared → Prop} {Mid : Nat → Value → Shared → Prop}
    {K : Value → Addr → Result → Shared → Prop} (V : Ev env L names cells globs) (hs : ∀ p ∈ cells', p ∈ cells) (ok : compOk scope nm (cells'.map (·.1)) gl = true)
    (W : Wk prog w A I wr fp gs n target P Stt Mid) (s₀ : Shared) (hsz : n ≤ 1000000) (S : St mg mb B s.heap ob) (hwr : ∀ b ∈ wr, (∀ o, ¬ B b o) ∧ b ∉ ob.map (·.1)) (hfp : ∀ b ∈ fp, b ∉ ob.map (·.1) ∧ b < s.heap.objs.size) (hsd : Side s₀ s) (hgs : ∀ g ∈ gs, s₀.gens[g]? = none)
    (hst : Stt 0 s) (Inv : Nat → List Value → Rl → Prop) (h0 : Inv 0 [] B) (hmono : ∀ i ys X Y, Sub X Y → Inv i ys X → Inv i ys Y)
    (turn : ∀ i v ys B' s₁ E D C cenv, Ev cenv C nm cells' gl → i < n → Inv i ys B' → Sub B B' → St mg mb B' s₁.heap (ob ++ [(D, listP ys), (C, nsP nm (lvN nm))] ++ keepers wr s₁.heap) → P i v B' → Side s₀ s₁ →
      wpAny (model prog w) A (assign target cenv v) (fun _ s₂ =>
        wpAny (model prog w) A (forIn ifs true fun c r => if r = true then do let ok ← isTrue c cenv (eval c cenv); pure (ForInStep.yield ok) else pure (ForInStep.yield r)) (fun ok s₃ =>
          if ok = true then wpAny (model prog w) A (eval elt cenv) (fun x s₄ => TurnEnd mg mb ob D C nm (keepers wr s₁.heap) (Inv (i + 1) (ys ++ [x])) B' ys s₁ s₄) E s₃
          else TurnEnd mg mb ob D C nm (keepers wr s₁.heap) (Inv (i + 1) ys) B' ys s₁ s₃) E s₂) E s₁)
    (done : ∀ D C ys B' s', Inv n ys B' → Sub B B' → St mg mb B' s'.heap (ob ++ [(D, listP ys), (C, nsP nm (lvN nm))]) → Side s₀ s' → K (.ref D) C (.ok .next) s') :
    wpAny (model prog w) A (newList []) (fun acc s₃ => wpAny (model prog w) A (newFunctionEnv scope env.globals (closG env scope.names []) [] env.qual none .none (some env)) (fun cenv s₄ =>
      codeAny (model prog w) A (.compStart (.ListComp elt [⟨target, iter, ifs, 0⟩] scope pos) 0 (.ref I) acc { cenv with scope := relabel scope env }) (K acc cenv.locals) s₄) E s₃) E s := by
  refine comp_block0 V hs ok W.toWk0 S hwr hfp hst fun D C cenv h₁ tk hE S₂ hwr₂ hfp₂ hst₂ => ?_
  exact comp_wk W s₀ hsz S₂ hwr₂ hfp₂ hsd hgs hst₂ Inv h0 hmono
    (fun i v ys B' s₁ E => turn i v ys B' s₁ E _ _ _ hE) (fun ys B' s' a b c d => done _ _ ys B' s' a b c d)

/-- a comprehension as a value -/
theorem comp_eval {elt target iter : PySem.Expr} {ifs : List PySem.Expr} {rest : List Comprehension} {scope : Scope} {pos : Pos} {env : Env} {L : Addr} {names : List Str} {cells cells' : List (Str × Addr)} {globs nm gl : List Str} {Q : Value → Shared → Prop}
    (V : Ev env L names cells globs) (hs : ∀ p ∈ cells', p ∈ cells) (ok : compOk scope nm (cells'.map (·.1)) gl = true)
    (h : wpAny (model prog w) A (eval iter env) (fun x s₁ => wpAny (model prog w) A (pyIter x) (fun it s₂ => wpAny (model prog w) A (newList []) (fun acc s₃ => wpAny (model prog w) A (newFunctionEnv scope env.globals (closG env scope.names []) [] env.qual none .none (some env)) (fun cenv s₄ =>
      codeAny (model prog w) A (.compStart (.ListComp elt (⟨target, iter, ifs, 0⟩ :: rest) scope pos) 0 it acc { cenv with scope := relabel scope env }) (compPost (model prog w) A E none Q acc cenv.locals) s₄) E s₃) E s₂) E s₁) E s)
    (hf : ∀ x, foldedSetIterable iter env x = pure x := by intro _; rfl) :
    wpAny (model prog w) A (eval (.ListComp elt (⟨target, iter, ifs, 0⟩ :: rest) scope pos) env) Q E s := by
  rw [eval_ListComp]
  have okk := ok
  simp only [compOk, Bool.and_eq_true, Bool.or_eq_true, decide_eq_true_eq, List.all_eq_true] at okk
  exact wpAny_comprehension_free (use := none) rfl hf (ev_comp V hs ok).1 okk.1.1.2 (fun x hx hl => (okk.2 x hx).2.elim (fun n => absurd hl n) id) h

theorem post_eval {Q : Value → Shared → Prop} {D C : Addr} {ys : List Value} {nm : List Str} {lv : List (Option Value)} (S : St mg mb B s.heap (ob ++ [(D, listP ys), (C, nsP nm lv)]))
    (h : ∀ h', St mg mb B h' (ob ++ [(D, listP ys)]) → Q (.ref D) { s with heap := h' }) : compPost (model prog w) A E none Q (.ref D) C (.ok .next) s := by
  have S' : St mg mb B s.heap ((ob ++ [(D, listP ys)]) ++ [(C, nsP nm lv)]) := by simpa [List.append_assoc] using S
  obtain ⟨m, hm, _⟩ := (S'.own (C, nsP nm lv) (List.mem_append_right _ (.head _))).1.ns
  exact ⟨m, hm, fun h' hs => h h' (S'.lose fun b o hb e => (hs.2 b hb).trans e)⟩

theorem swaps_of {elt : PySem.Expr} {gens : List Comprehension} {scope : Scope} {pos py : Pos} {y : Str} {line : Nat} {env : Env} (hk : env.scope.kind = .function) (hl : env.kindOf y = some .local) (hline : (py.line == pos.line) = true)
    (hn : (scope.names.any fun p => p.1 == y && (p.2 == .local || p.2 == .cell)) = false) : swapsWith (.ListComp elt gens scope pos) (some (.Name y py)) line env = pure true := by
  unfold swapsWith
  have e : (scope.names.any fun (n, k) => n == y && (k == NameKind.local || k == NameKind.cell)) = false := hn
  have hl' : (py.line == (PySem.Expr.ListComp elt gens scope pos).pos.line) = true := hline
  simp only [Env.blockKind, hk, hl, e, ScopeKind.isAnnotationScope, Bool.false_and, Bool.false_eq_true, if_false]
  rw [hl']
  rfl

/-- a comprehension put under a local name of the same row -/
theorem comp_asg (j i₀ : Nat) {elt target iter : PySem.Expr} {ifs : List PySem.Expr} {rest : List Comprehension} {scope : Scope} {pos py spos : Pos} {y : Str} {env : Env} {L : Addr} {names : List Str} {cells cells' : List (Str × Addr)} {globs nm gl : List Str} {Q : Flow → Shared → Prop}
    (V : Ev env L names cells globs) (hy : names[i₀]? = some y) (hs : ∀ p ∈ cells', p ∈ cells) (ok : compOk scope nm (cells'.map (·.1)) gl = true)
    (h : wpAny (model prog w) A (eval iter env) (fun x s₁ => wpAny (model prog w) A (pyIter x) (fun it s₂ => wpAny (model prog w) A (newList []) (fun acc s₃ => wpAny (model prog w) A (newFunctionEnv scope env.globals (closG env scope.names []) [] env.qual none .none (some env)) (fun cenv s₄ =>
      codeAny (model prog w) A (.compStart (.ListComp elt (⟨target, iter, ifs, 0⟩ :: rest) scope pos) 0 it acc { cenv with scope := relabel scope env }) (compPost (model prog w) A E (some (assign (.Name y py) env)) (fun _ s' => Q .next s') acc cenv.locals) s₄) E s₃) E s₂) E s₁) E s)
    (hline : (py.line == pos.line) = true) (hn : (scope.names.any fun p => p.1 == y && (p.2 == .local || p.2 == .cell)) = false)
    (hf : ∀ x, foldedSetIterable iter env x = pure x := by intro _; rfl) :
    wpAny (model prog w) A (exec (.Assign [.Name y py] (.ListComp elt (⟨target, iter, ifs, 0⟩ :: rest) scope pos) spos) env) Q E s := by
  rw [exec_Assign_Name_used _ _ _ _ (swaps_of V.kind (V.kl y (List.mem_of_getElem? hy)) hline hn)]
  refine wpAny_bind (wpAny_standAt (wpAny_bind ?_))
  show wpAny _ A (do let _ ← comprehension (.ListComp elt (⟨target, iter, ifs, 0⟩ :: rest) scope pos) scope env _ (newList []) false (eval iter env) (some (assign (.Name y py) env))) _ _ s
  have okk := ok
  simp only [compOk, Bool.and_eq_true, Bool.or_eq_true, decide_eq_true_eq, List.all_eq_true] at okk
  exact wpAny_bind (wpAny_mono (wpAny_comprehension_free (use := some (assign (.Name y py) env)) (Q := fun _ s' => Q .next s') rfl hf (ev_comp V hs ok).1 okk.1.1.2 (fun x hx hl => (okk.2 x hx).2.elim (fun n => absurd hl n) id) h)
    (fun _ s' hq => wpAny_pure (wpAny_pure hq)) fun _ _ e => e)

theorem post_asg (j i₀ : Nat) {Q : Value → Shared → Prop} {env : Env} {L D C : Addr} {names : List Str} {cells : List (Str × Addr)} {globs : List Str} {y : Str} {py : Pos} {ys : List Value} {nm : List Str} {lv lv₀ : List (Option Value)} (V : Ev env L names cells globs) (hj : ob[j]? = some (L, nsP names lv₀)) (hy : names[i₀]? = some y)
    (S : St mg mb B s.heap (ob ++ [(D, listP ys), (C, nsP nm lv)]))
    (h : ∀ h' tk, St mg mb B h' (ob.set j (L, nsP names (lv₀.set i₀ (some (.ref D)))) ++ [(D, listP ys)]) → Q .none { s with heap := h', toks := tk }) : compPost (model prog w) A E (some (assign (.Name y py) env)) Q (.ref D) C (.ok .next) s := by
  obtain ⟨hlt, _⟩ := List.getElem?_eq_some_iff.mp hj
  show wpAny _ A (assign (.Name y py) env (.ref D)) _ _ s
  refine assign_Name (stl j i₀ S V (by rw [List.getElem?_append_left hlt]; exact hj) hy fun h₁ S₁ => ?_)
  have e : (ob ++ [(D, listP ys), (C, nsP nm lv)]).set j (L, nsP names (lv₀.set i₀ (some (.ref D)))) = (ob.set j (L, nsP names (lv₀.set i₀ (some (.ref D)))) ++ [(D, listP ys)]) ++ [(C, nsP nm lv)] := by
    rw [List.set_append_left _ _ hlt]; simp
  rw [e] at S₁
  obtain ⟨m, hm, _⟩ := (S₁.own (C, nsP nm lv) (List.mem_append_right _ (.head _))).1.ns
  exact ⟨m, hm, fun h' hs => h h' _ (S₁.lose fun b o hb e => (hs.2 b hb).trans e)⟩
end
end Mine
end
/-! ## F6 -/
section
set_option maxRecDepth 100000
set_option maxHeartbeats 4000000
open PySem PySem.Calls PySem.W PyProof.Rows
namespace Mine
theorem bindL_is (kindOf : Str → Option NameKind) (x : Str) (hx : kindOf x = some .local) : ∀ (binds : List (Str × Value)) (m : Str → Option Value), (binds.map (·.1)).Nodup → bindL kindOf binds m x = (binds.lookup x).or (m x)
  | [], m, _ => by simp [bindL]
  | (n, v) :: r, m, nd => by
    rw [List.map_cons, List.nodup_cons] at nd
    show bindL kindOf r (if kindOf n = some .local then fun y => if y = n then some v else m y else m) x = _
    rw [bindL_is kindOf x hx r _ nd.2, List.lookup_cons]
    by_cases e : x = n
    · subst e
      have hn : r.lookup x = none := by
        cases q : r.lookup x with
        | none => rfl
        | some u => exact absurd (List.mem_map.mpr ⟨_, mem_of_lookup q, rfl⟩) nd.1
      simp [hx, hn]
    · have hb : (x == n) = false := by simpa using e
      rw [hb]
      split <;> simp [e]
theorem bindC_is (kindOf : Str → Option NameKind) (x : Str) (hx : kindOf x ≠ some .local) : ∀ (binds : List (Str × Value)) (m : Str → Option Value), (binds.map (·.1)).Nodup → bindC kindOf binds m x = (binds.lookup x).or (m x)
  | [], m, _ => by simp [bindC]
  | (n, v) :: r, m, nd => by
    rw [List.map_cons, List.nodup_cons] at nd
    show bindC kindOf r (if kindOf n = some .local then m else fun y => if y = n then some v else m y) x = _
    rw [bindC_is kindOf x hx r _ nd.2, List.lookup_cons]
    by_cases e : x = n
    · subst e
      have hn : r.lookup x = none := by
        cases q : r.lookup x with
        | none => rfl
        | some u => exact absurd (List.mem_map.mpr ⟨_, mem_of_lookup q, rfl⟩) nd.1
      simp [hx, hn]
    · have hb : (x == n) = false := by simpa using e
      rw [hb]
      split <;> simp [e]

def evOkC (sc : Scope) (ps names globs : List Str) : Bool :=
  names.all (fun x => decide (sc.names.lookup x = some .local)) && globs.all (fun x => decide (sc.names.lookup x = some .globalImplicit)) && decide names.Nodup && decide (sc.kind = .function) && decide ps.Nodup &&
  (cellsFrom 1 sc.names []).all (fun p => decide (sc.names.lookup p.1 = some .cell)) && decide ((cellsFrom 1 sc.names []).map (·.1)).Nodup && ps.all (fun x => decide (sc.names.lookup x = some .local) || (decide (sc.names.lookup x = some .cell)))
theorem cellsFrom_fst : ∀ (l : List (Str × NameKind)) (n k : Nat) (acc acc' : List (Str × Addr)), acc.map (·.1) = acc'.map (·.1) → (cellsFrom n l acc).map (·.1) = (cellsFrom k l acc').map (·.1)
  | [], _, _, _, _, h => h
  | (x, kd) :: r, n, k, acc, acc', h => by
    unfold cellsFrom
    split
    · exact cellsFrom_fst r _ _ _ _ (by simp [h])
    · exact cellsFrom_fst r _ _ _ _ h
theorem cellsFrom_snd : ∀ (l : List (Str × NameKind)) (n : Nat) (acc : List (Str × Addr)), (acc.map (·.2)).Nodup → (∀ p ∈ acc, p.2 < n) → ((cellsFrom n l acc).map (·.2)).Nodup
  | [], _, _, h, _ => h
  | (x, kd) :: r, n, acc, h, hl => by
    unfold cellsFrom
    split
    · refine cellsFrom_snd r _ _ ?_ ?_
      · rw [List.map_cons, List.nodup_cons]
        refine ⟨fun hm => ?_, h⟩
        obtain ⟨p, hp, e⟩ := List.mem_map.mp hm
        have e' : p.2 = n := e
        exact absurd (hl p hp) (by rw [e']; exact Nat.lt_irrefl _)
      · intro p hp
        rcases List.mem_cons.mp hp with rfl | hp
        · exact Nat.lt_succ_self _
        · exact Nat.lt_succ_of_lt (hl p hp)
    · exact cellsFrom_snd r _ _ h hl

section
variable {prog : Program} {w : World} {A : Around} {s : Shared} {mg mb : Str → Option Value}
theorem enterC {R : Result → Shared → Prop} {d u : Nat} (k : Nat) (hk : k ∈ defsUsed) {a : Addr} (ps names globs : List Str) {args : List Value} {lv : List (Option Value)} (W : Wd mg mb s.heap) (ha : mg (defAt k).name = some (.ref a)) (Rm : Room A (d + 1) (u + 3))
    (ok : evOkC (defAt k).scope ps names globs = true)
    (hbind : ∀ pm code doc, bindArgs (docDef (defAt k).name (defAt k).params (defAt k).body (defAt k).scope pm code doc) ⟨args, []⟩ = pure (ps.zip args))
    (hl : args.length = ps.length) (hlv : ∀ (i : Nat) (x : Str) (v : Value), names[i]? = some x → lv[i]? = some (some v) → (ps.zip args).lookup x = some v)
    (h : ∀ L h₁ tk env A' E, Ev env L names (cellsFrom (L + 1) (defAt k).scope.names []) globs → Room A' d u →
      St mg mb (fun b o => s.heap.get? b = some o) h₁ ((L, nsP names lv) :: (cellsFrom (L + 1) (defAt k).scope.names []).map fun p => (p.2, cellP ((ps.zip args).lookup p.1))) →
      wpAny (model prog w) A' (execs (defAt k).body env) (fun f s' => R (.ok (.ret (retOf f))) s') E { s with heap := h₁, toks := tk })
    (hco : (defAt k).scope.isCoroutine = false := by rfl) (hgen : (defAt k).scope.isGenerator = false := by rfl) :
    codeAny (model prog w) A (.call (.ref a) ⟨args, []⟩) R s := by
  obtain ⟨a', o, pm, code, doc, h1, h2, h3, h4⟩ := W.fn k hk
  rw [ha] at h1
  cases h1
  simp only [evOkC, Bool.and_eq_true, Bool.or_eq_true, decide_eq_true_eq, List.all_eq_true] at ok
  obtain ⟨⟨⟨⟨⟨⟨⟨k1, k2⟩, k3⟩, k4⟩, k5⟩, k6⟩, k7⟩, k8⟩ := ok
  have hfst : ∀ L, (cellsFrom (L + 1) (defAt k).scope.names []).map (·.1) = (cellsFrom 1 (defAt k).scope.names []).map (·.1) := fun L => cellsFrom_fst _ _ _ _ _ rfl
  have hcell : ∀ L, ∀ p ∈ cellsFrom (L + 1) (defAt k).scope.names [], (defAt k).scope.names.lookup p.1 = some .cell := fun L p hp => by
    have hm : p.1 ∈ (cellsFrom 1 (defAt k).scope.names []).map (·.1) := by rw [← hfst L]; exact List.mem_map_of_mem hp
    obtain ⟨q, hq, e⟩ := List.mem_map.mp hm
    rw [← e]; exact k6 q hq
  have hlk : ∀ L, ∀ p ∈ cellsFrom (L + 1) (defAt k).scope.names [], (cellsFrom (L + 1) (defAt k).scope.names []).lookup p.1 = some p.2 := fun L p hp => by
    have nd : ((cellsFrom (L + 1) (defAt k).scope.names []).map (·.1)).Nodup := by rw [hfst]; exact k7
    generalize cellsFrom (L + 1) (defAt k).scope.names [] = l at hp nd
    induction l with
    | nil => cases hp
    | cons q r ih =>
      rw [List.map_cons, List.nodup_cons] at nd
      obtain ⟨y, c⟩ := q
      rw [List.lookup_cons]
      rcases List.mem_cons.mp hp with e | hp
      · rw [e]; simp
      · have hne : (p.1 == y) = false := by
          have : p.1 ≠ y := fun e => nd.1 (List.mem_map.mpr ⟨p, hp, e⟩)
          simpa using this
        rw [hne]; exact ih hp nd.2
  have ndz : ((ps.zip args).map (·.1)).Nodup := by rw [List.map_fst_zip (Nat.le_of_eq hl.symm)]; exact k5
  refine codeAny_call_cells (binds := ps.zip args) (by have := Rm.hd; omega) h2 h3 W.nolimit h4 rfl (hbind pm code doc) rfl (fun x hx => ?_) (fun s₁ X => ?_) hco hgen k4
  · have hx' := k8 x.1 (List.of_mem_zip hx).1
    rcases hx' with h | h
    · exact .inl h
    · refine .inr ⟨h, ?_⟩
      show ((cellsFrom (s.heap.objs.size + 1) (defAt k).scope.names []).lookup x.1).isSome = true
      exact cellsFrom_some _ _ _ (.inl h)
  · obtain ⟨h', tk, rfl⟩ := X.toInCall.same
    have V : Ev (callEnvC (docDef (defAt k).name (defAt k).params (defAt k).body (defAt k).scope pm code doc) s.heap.objs.size a) s.heap.objs.size names (cellsFrom (s.heap.objs.size + 1) (defAt k).scope.names []) globs :=
      ⟨k4, rfl, rfl, rfl, fun x hx => k1 x hx, fun p hp => ⟨hcell _ p hp, hlk _ p hp⟩, fun x hx => k2 x hx, k3⟩
    refine h s.heap.objs.size h' tk _ _ _ V (Rm.deeper _) ⟨⟨_, W, fun b o e => e⟩, X.toInCall.keep, fun p hp => ?_, ?_⟩
    · have above : ∀ a, s.heap.objs.size ≤ a → ∀ o, ¬ s.heap.get? a = some o := fun a h o e => absurd (Heap.lt_size e) (Nat.not_lt.mpr h)
      rcases List.mem_cons.mp hp with rfl | hp
      · refine ⟨At.of_ns X.toInCall.ns fun i x v hi hv => ?_, above _ (Nat.le_refl _)⟩
        rw [bindL_is _ x (V.kl x (List.mem_of_getElem? hi)) _ _ ndz, hlv i x v hi hv]; rfl
      · obtain ⟨q, hq, rfl⟩ := List.mem_map.mp hp
        have hc := X.cell q.1 q.2 (V.kc q hq).2
        have e : bindC (callEnvC (docDef (defAt k).name (defAt k).params (defAt k).body (defAt k).scope pm code doc) s.heap.objs.size a).kindOf (ps.zip args) (fun _ => none) q.1 = (ps.zip args).lookup q.1 := by
          rw [bindC_is _ q.1 (by rw [(V.kc q hq).1]; simp) _ _ ndz]; simp
        rw [e] at hc
        exact ⟨hc, above _ (Nat.le_of_lt (X.above q.1 q.2 (mem_of_lookup (V.kc q hq).2)))⟩
    · rw [List.map_cons, List.nodup_cons, List.map_map]
      refine ⟨fun hm => ?_, cellsFrom_snd _ _ _ (by simp) (fun p hp => nomatch hp)⟩
      obtain ⟨q, hq, e⟩ := List.mem_map.mp hm
      have := X.above q.1 q.2 (mem_of_lookup (V.kc q hq).2)
      have e' : q.2 = s.heap.objs.size := e
      have e2 : (callEnvC (docDef (defAt k).name (defAt k).params (defAt k).body (defAt k).scope pm code doc) s.heap.objs.size a).locals = s.heap.objs.size := rfl
      rw [e2] at this
      exact absurd this (e' ▸ Nat.lt_irrefl _)
end
end Mine
end
/-! ## F7 -/
section
set_option maxRecDepth 100000
set_option maxHeartbeats 4000000
open PySem PySem.Calls PySem.W PyProof.Rows
namespace Mine
/-- over a tuple -/
theorem Wk.tuple {prog : Program} {w : World} {A : Around} (hh : A.handled = none) (I ax : Addr) (hne : ax ≠ I) (xs : List Value) (x : Str) (pos : Pos) :
    Wk prog w A I [I] [I, ax] [] xs.length (.Name x pos) (fun i v _ => xs[i]? = some v) (fun i s => s.heap.IsTupleIter I ax i ∧ s.heap.IsTuple ax xs.toArray) (fun i _ s => s.heap.IsTupleIter I ax (i + 1) ∧ s.heap.IsTuple ax xs.toArray) where
  mono := fun _ _ _ _ _ h => h
  sub := fun b hb => by simp at hb; simp [hb]
  nd := by simp
  here := fun i s st b hb => by
    rw [List.mem_singleton.mp hb]
    obtain ⟨o, ho, _⟩ := st.1
    exact ⟨o, ho⟩
  frame := fun i s s' st k _ => ⟨let ⟨o, ho, r⟩ := st.1; ⟨o, k I (by simp) o ho, r⟩, let ⟨o, ho, r⟩ := st.2; ⟨o, k ax (by simp) o ho, r⟩⟩
  item := fun i s Q E hi st hQ => by
    refine wpAny_pyNext_tuple_item st.1 st.2 (x := xs[i]) (by simp [hi]) fun h' hit' hs' => ?_
    refine hQ _ _ (by simp [hi]) ⟨hit', st.2.extBut hs'.extBut hne⟩ ?_
    exact ⟨fun b o hb e => hs'.extBut b o (fun h => hb (by simp [h])) e, rfl, fun _ _ _ e => e, id⟩
  go := fun i v s Q E st hQ => wpAny_pure (hQ s st ⟨fun _ _ _ e => e, rfl, fun _ _ _ e => e, id⟩)
  done := fun s Q E st hQ => wpAny_pyNext_tuple_end hh st.1 st.2 (by simp) fun h' he' => hQ _ ⟨fun b o hb e => he' b o (fun h => hb (by simp [h])) e, rfl, fun _ _ _ e => e, id⟩
  self := fun i s Q E st hQ => wpAny_pyIter_tupleiter st.1 hQ

section
variable {prog : Program} {w : World} {A : Around} {E : Value → Shared → Prop} {s : Shared} {mg mb : Str → Option Value} {B : Rl} {ob : Ob} {R : Result → Shared → Prop}
/-- the iterator of a tuple that stays -/
theorem iterT_ {l : Addr} {xs : List Value} {Q : Value → Shared → Prop} (S : St mg mb B s.heap ob) (hl : Tup B l xs)
    (h : ∀ it h', St mg mb B h' ob → (∀ b ∈ [it], (∀ o, ¬ B b o) ∧ b ∉ ob.map (·.1)) → (∀ b ∈ [it, l], b ∉ ob.map (·.1)) → l ≠ it → h'.IsTupleIter it l 0 → h'.IsTuple l xs.toArray → Q (.ref it) { s with heap := h' }) :
    wpAny (model prog w) A (pyIter (.ref l)) Q E s := by
  have hL := (hl.mono S.hp).isTup
  refine wpAny_pyIter_tuple hL ?_
  have hk : ∀ b o, s.heap.get? b = some o → (s.heap.push { cls := .type "tuple_iterator", data := .fields #[.ref l, .int 0 0] }).get? b = some o := fun b o e => Heap.get?_push_of_some _ e
  have off : (∀ o, ¬ B s.heap.objs.size o) ∧ s.heap.objs.size ∉ ob.map (·.1) := ⟨fun o e => absurd (Heap.lt_size (S.keep _ o e)) (Nat.lt_irrefl _), fun hm => by
    obtain ⟨o, ho⟩ := S.there hm
    exact absurd (Heap.lt_size ho) (Nat.lt_irrefl _)⟩
  obtain ⟨o, ho, hp⟩ := id hl
  have hlt := Heap.lt_size (S.keep _ _ ho)
  refine h _ _ (S.grow hk) ?_ ?_ (Nat.ne_of_lt hlt) ⟨_, Heap.get?_push_size _ rfl, rfl, rfl⟩ (let ⟨o, ho, r⟩ := hL; ⟨o, hk _ _ ho, r⟩)
  · intro b hb; rw [List.mem_singleton.mp hb]; exact off
  · intro b hb
    simp at hb
    rcases hb with rfl | rfl
    · exact off.2
    · exact fun hm => (S.subMx _ _ ho).2 hm

theorem while_ {test : PySem.Expr} {body : List Stmt} {env : Env} (I : Nat → Shared → Prop)
    (turn : ∀ n s, I n s → ∀ E, wpAny (model prog w) A (isTrue test env (eval test env)) (fun b s₂ => if b = true then wpAny (model prog w) A (execs body env) (Post R fun s₃ => ∃ m, m < n ∧ I m s₃) E s₂ else R (.ok .next) s₂) E s)
    (n : Nat) (h : I n s) : codeAny (model prog w) A (.whileLoop test body [] env) R s := by
  refine codeAny_whileLoop I (fun n s hI => wpAny_mono (turn n s hI _) (fun b s₂ h₂ => ?_) fun _ _ e => e) n h
  cases b with
  | false => exact wpAny_execs_nil h₂
  | true =>
    refine wpAny_mono h₂ (fun fl s₄ h₄ => ?_) fun _ _ e => e
    cases fl with
    | next => exact h₄
    | cont => exact h₄
    | brk => exact h₄
    | ret v => exact h₄

abbrev comp2 (elt t₁ i₁ t₂ i₂ : PySem.Expr) (scope : Scope) (pos : Pos) : PySem.Expr := .ListComp elt [⟨t₁, i₁, [], 0⟩, ⟨t₂, i₂, [], 0⟩] scope pos
theorem compOut_any {elt t₁ i₁ t₂ i₂ : PySem.Expr} {scope : Scope} {pos : Pos} {it acc : Value} {env : Env} (I : Nat → Shared → Prop)
    (turn : ∀ n s, I n s → ∀ E, wpAny (model prog w) A (pyNext it) (fun r s₁ => match r with
      | none => R (.ok .next) s₁
      | some v => wpAny (model prog w) A (letOwnedTupleGo t₁ it v) (fun _ s₁' => wpAny (model prog w) A (assign t₁ env v) (fun _ s₂ =>
          wpAny (model prog w) A (eval i₂ env) (fun x s₃ => wpAny (model prog w) A (pyIter x) (fun it₂ s₄ =>
            codeAny (model prog w) A (.compStart (comp2 elt t₁ i₁ t₂ i₂ scope pos) 1 it₂ acc env) (fun r s₅ => r = .ok .next ∧ ∃ m, m < n ∧ I m s₅) s₄) E s₃) E s₂) E s₁') E s₁) E s)
    (n : Nat) (h : I n s) (hf : ∀ x, foldedSetIterable i₂ env x = pure x) :
    codeAny (model prog w) A (.compLoop (comp2 elt t₁ i₁ t₂ i₂ scope pos) 0 it acc env) R s := by
  refine codeAny_loop rfl I (fun n s hI => ?_) n h
  show wpAny _ A ((compTurn (comp2 elt t₁ i₁ t₂ i₂ scope pos) 0 it acc env).onRaise (fun x => do noteFrame x env; theTreesLotGoes x)) _ _ s
  refine wpAny_noted ?_
  show wpAny _ A (standAt i₁.pos >>= fun _ => pyNext it >>= _) _ _ s
  refine wpAny_bind (wpAny_standAt (wpAny_bind (wpAny_mono (turn n s hI _) (fun r s₁ h₁ => ?_) fun _ _ h' => h')))
  cases r with
  | none => exact wpAny_pure h₁
  | some v =>
    refine wpAny_bind (wpAny_mono h₁ (fun _ s₁' h₁' => ?_) fun _ _ h' => h')
    refine wpAny_bind (wpAny_mono h₁' (fun _ s₂ h₂ => wpAny_bind (wpAny_tests_nil ?_)) fun _ _ h' => h')
    rw [if_pos rfl]
    refine wpAny_bind (wpAny_mono h₂ (fun x s₃ h₃ => ?_) fun _ _ h' => h')
    refine wpAny_bind (wpAny_standAt (wpAny_bind (wpAny_of_eq (hf x) (wpAny_bind (wpAny_holding (wpAny_mono h₃ (fun it₂ s₄ h₄ => ?_) fun _ _ h' => h'))))))
    refine wpAny_bind (wpAny_runOwn (codeAny_mono h₄ fun r s₅ h₅ => ?_))
    obtain ⟨rfl, h₅⟩ := h₅
    exact wpAny_pure ⟨rfl, h₅⟩
theorem compIn_any {elt t₁ i₁ t₂ i₂ : PySem.Expr} {scope : Scope} {pos : Pos} {it acc : Value} {env : Env} (I : Nat → Shared → Prop)
    (turn : ∀ n s, I n s → ∀ E, wpAny (model prog w) A (pyNext it) (fun r s₁ => match r with
      | none => R (.ok .next) s₁
      | some v => wpAny (model prog w) A (letOwnedTupleGo t₂ it v) (fun _ s₁' => wpAny (model prog w) A (assign t₂ env v) (fun _ s₂ =>
          wpAny (model prog w) A (eval elt env) (fun x s₄ => wpAny (model prog w) A (call (.builtin "list.append") [acc, x]) (fun _ s₅ => ∃ m, m < n ∧ I m s₅) E s₄) E s₂) E s₁') E s₁) E s)
    (n : Nat) (h : I n s) :
    codeAny (model prog w) A (.compLoop (comp2 elt t₁ i₁ t₂ i₂ scope pos) 1 it acc env) R s := by
  refine codeAny_loop rfl I (fun n s hI => ?_) n h
  show wpAny _ A ((compTurn (comp2 elt t₁ i₁ t₂ i₂ scope pos) 1 it acc env).onRaise (fun x => do noteFrame x env; theTreesLotGoes x)) _ _ s
  refine wpAny_noted ?_
  show wpAny _ A (standAt i₂.pos >>= fun _ => pyNext it >>= _) _ _ s
  refine wpAny_bind (wpAny_standAt (wpAny_bind (wpAny_mono (turn n s hI _) (fun r s₁ h₁ => ?_) fun _ _ h' => h')))
  cases r with
  | none => exact wpAny_pure h₁
  | some v =>
    refine wpAny_bind (wpAny_mono h₁ (fun _ s₁' h₁' => ?_) fun _ _ h' => h')
    refine wpAny_bind (wpAny_mono h₁' (fun _ s₂ h₂ => wpAny_bind (wpAny_tests_nil ?_)) fun _ _ h' => h')
    rw [if_pos rfl]
    exact wpAny_bind (wpAny_bind (wpAny_mono h₂ (fun x s₄ h₄ => wpAny_bind (wpAny_mono h₄ (fun _ s₅ h₅ => wpAny_pure (wpAny_pure ⟨rfl, h₅⟩)) fun _ _ h' => h')) fun _ _ h' => h'))
theorem compStart_in {elt t₁ i₁ t₂ i₂ : PySem.Expr} {scope : Scope} {pos : Pos} {it acc : Value} {env : Env}
    (h0 : codeAny (model prog w) A (.compLoop (comp2 elt t₁ i₁ t₂ i₂ scope pos) 1 it acc env) R s)
    (h : wpAny (model prog w) A (pyIter it) (fun it' s' => codeAny (model prog w) A (.compLoop (comp2 elt t₁ i₁ t₂ i₂ scope pos) 1 it' acc env) R s')
      (notedBy (model prog w) A env fun x s' => R (.error x) s') s) :
    codeAny (model prog w) A (.compStart (comp2 elt t₁ i₁ t₂ i₂ scope pos) 1 it acc env) R s := by
  refine codeAny_of_tree ?_
  show wpAny _ _ ((compStart (comp2 elt t₁ i₁ t₂ i₂ scope pos) 1 it acc env).onRaise (fun x => do noteFrame x env; standAt theWindowsPlace)) _ _ s
  refine wpAny_notedAt ?_
  unfold compStart
  show wpAny _ _ (ask >>= _) _ _ s
  refine wpAny_bind (wpAny_askSetting (wpAny_ite ?_))
  split
  · first
      | exact wpAny_bind (wpAny_pure (wpAny_pure (And.intro rfl h0)))
      | exact wpAny_pure (And.intro rfl h0)
  · first
      | exact wpAny_bind (wpAny_rule (wpAny_bind (wpAny_standAt (wpAny_bind (wpAny_mono h (fun it' s' h' => wpAny_pure (And.intro rfl h')) fun _ _ x => x)))))
      | exact wpAny_bind (wpAny_standAt (wpAny_bind (wpAny_mono h (fun it' s' h' => wpAny_pure (And.intro rfl h')) fun _ _ x => x)))

/-- the greatest of own ints -/
theorem intsPack {vs : List Value} {ns : List Int} (h : IntsAre vs ns) : ∃ xs : Array (Int × Tok), vs.toArray = intItems xs ∧ xs.size = ns.length ∧ ∀ i, i < ns.length → ns[i]? = some (numAt xs i) := by
  induction h with
  | nil => exact ⟨#[], by simp [intItems], rfl, fun i hi => by simp at hi⟩
  | @cons n t vs ns _ ih =>
    obtain ⟨xs, e1, e2, e3⟩ := ih
    refine ⟨((n, t) :: xs.toList).toArray, ?_, by simp [e2], fun i hi => ?_⟩
    · have e1' : vs = xs.toList.map fun p => Value.int p.1 p.2 := by
        have := congrArg Array.toList e1
        simpa [intItems] using this
      simp [intItems, e1']
    · cases i with
      | zero => simp [numAt]
      | succ i =>
        have hi' : i < ns.length := by simpa using hi
        have := e3 i hi'
        simp only [List.getElem?_cons_succ, this]
        simp [numAt]
theorem max_ {l : Addr} {ns : List Int} {Q : Value → Shared → Prop} (S : St mg mb B s.heap ob) (hl : Ints B l ns) (hh : A.handled = none) (hne : ns ≠ [])
    (h : ∀ m t h' tk, m ∈ ns → (∀ n ∈ ns, n ≤ m) → St mg mb B h' ob → (∀ b o, s.heap.get? b = some o → h'.get? b = some o) → Q (.int m t) { s with heap := h', toks := tk }) :
    wpAny (model prog w) A (call (.builtin "max") [.ref l]) Q E s := by
  obtain ⟨vs, hv, hi⟩ := hl
  obtain ⟨xs, e1, e2, e3⟩ := intsPack hi
  have hL := (hv.mono S.hp).isList
  rw [e1] at hL
  have hpos : 0 < xs.size := by rw [e2]; exact List.length_pos_iff.mpr hne
  refine max_intList hh hL hpos fun v h' tk hv hk => ?_
  obtain ⟨t, rfl⟩ := intItems_at hv
  obtain ⟨g1, g2⟩ := argBest_gt (numAt xs) (xs.size - 1)
  refine h _ t h' tk ?_ (fun n hn => ?_) (S.grow hk) hk
  · have := e3 _ (show argBest (fun i j => decide (numAt xs i > numAt xs j)) (xs.size - 1) < ns.length by omega)
    exact List.mem_of_getElem? this
  · obtain ⟨i, hi'⟩ := List.mem_iff_getElem?.mp hn
    have hlt := (List.getElem?_eq_some_iff.mp hi').1
    have := e3 i hlt
    rw [hi'] at this
    cases this
    exact g2 i (by omega)
end
end Mine
end
/-! ## F8 -/
section
set_option maxRecDepth 100000
set_option maxHeartbeats 4000000
open PySem PySem.Calls PySem.W PyProof.Rows
namespace Mine
def stepL (rs : List (Int × Int)) (n : Int) : List Int := if 255 < n then (match rs[(n - 256).toNat]? with | some p => [p.1, p.2] | none => []) else [n]
abbrev lcN : List Str := ["number", "part"]
section
variable {prog : Program} {w : World} {A : Around} {s : Shared} {mg mb : Str → Option Value}
theorem stepL_expand {rs : List (Int × Int)} {f : Nat} {n : Int} (hst : Strat rs) (hf : f + 1 ≤ rs.length) (h : Sym (f + 1) n) :
    (∀ m ∈ stepL rs n, Sym f m) ∧ (stepL rs n).flatMap (expand rs f) = expand rs (f + 1) n ∧ (stepL rs n).length ≤ 2 ∧ stepL rs n ≠ [] := by
  rcases h with h | h
  · have hl := h.lt
    have e : stepL rs n = [n] := by unfold stepL; rw [if_neg (by omega)]
    rw [e, expand_leaf _ _ hl.1]
    refine ⟨fun m hm => ?_, ?_, by simp, by simp⟩
    · rw [List.mem_singleton.mp hm]; exact .inl h
    · simp [expand_leaf _ _ hl.1]
  · have hi : (n - 256).toNat < rs.length := by omega
    have hp := List.getElem?_eq_getElem hi
    generalize rs[(n - 256).toNat] = p at hp
    have e : stepL rs n = [p.1, p.2] := by unfold stepL; rw [if_pos (by omega), hp]
    obtain ⟨y1, y2⟩ := hst _ p hp
    rw [e, expand_rule rs f (by omega) hp]
    refine ⟨fun m hm => ?_, by simp, by simp, by simp⟩
    rcases List.mem_cons.mp hm with rfl | hm
    · exact y1.mono (by omega)
    · rw [List.mem_singleton.mp hm]; exact y2.mono (by omega)
theorem stepL_len (rs : List (Int × Int)) (n : Int) : (stepL rs n).length ≤ 2 := by
  unfold stepL
  split
  · split <;> simp
  · simp
theorem flat_len (rs : List (Int × Int)) (l : List Int) : (l.flatMap (stepL rs)).length ≤ 2 * l.length := by
  induction l with
  | nil => simp
  | cons x r ih =>
    have := stepL_len rs x
    simp only [List.flatMap_cons, List.length_append, List.length_cons]; omega


theorem low2 {h : Heap} {it l : Addr} {i : Nat} {xs : Array Value} (h1 : h.IsListIter it l i) (h2 : h.IsList l xs) : ∀ b ∈ [it, l], b < h.objs.size := by
  intro b hb
  obtain ⟨o, ho, _⟩ := h1
  obtain ⟨o', ho', _⟩ := h2
  simp at hb
  rcases hb with rfl | rfl
  · exact Heap.lt_size ho
  · exact Heap.lt_size ho'
/-- the row of leaves, one step -/
def lfStmt : Stmt := match (defAt 11).body with
  | .While _ [x] _ _ :: _ => x
  | _ => .Pass ⟨0, 0, 0, 0⟩
theorem leaves_comp {rs : List (Int × Int)} {cur : List Int} {f : Nat} {lcur lr L c : Addr} {env : Env} {B : Rl} {E : Value → Shared → Prop} {Q : Flow → Shared → Prop} (hh : A.handled = none) (hst : Strat rs) (h3 : rs.length = 3) (hf : f + 1 ≤ rs.length) (V : Ev env L ["row"] [("rules", c)] ["max"])
    (S : St mg mb B s.heap [(L, nsP ["row"] [some (.ref lcur)]), (c, cellP (some (.ref lr)))]) (hcur : Ints B lcur cur) (hr : Pairs B lr rs) (hsy : ∀ n ∈ cur, Sym (f + 1) n) (hcl : cur.length ≤ 400)
    (h : ∀ s' D B', Sub B B' → St mg mb B' s'.heap [(L, nsP ["row"] [some (.ref D)]), (c, cellP (some (.ref lr)))] → (∀ h₀, Sub (Hp h₀) B → Ints (Rs B' h₀ []) D (cur.flatMap (stepL rs))) → Side s s' → Q .next s') :
    wpAny (model prog w) A (exec lfStmt env) Q E s := by
  obtain ⟨ts, hrl, hrlen, hrp⟩ := id hr
  obtain ⟨vs, hlv, hiv⟩ := hcur
  have hvl : vs.length = cur.length := hiv.length
  refine comp_asg (nm := lcN) (gl := []) 0 0 V rfl (cells' := [("rules", c)]) (fun p hp => hp) (show compOk _ lcN ["rules"] [] = true by decide +kernel) ?_ rfl (by decide +kernel)
  refine ldl 0 0 S V rfl rfl rfl (iter_ S hlv fun it h₃ S₃ hwr hfp hne₂ hI hL => ?_)
  refine comp_block0 (cells' := [("rules", c)]) (nm := lcN) (gl := []) V (fun p hp => hp) (show compOk _ lcN ["rules"] [] = true by decide +kernel) (Wk.list hh it lcur hne₂ vs _ _).toWk0 S₃ hwr (fun b hb => ⟨hfp b hb, low2 hI hL b hb⟩) ⟨hI, hL⟩ fun D C cenv h₄ tk₄ V₄ S₄ hwr₄ hfp₄ hst₄ => ?_
  change St mg mb B h₄ [(L, nsP ["row"] [some (.ref lcur)]), (c, cellP (some (.ref lr))), (D, listP []), (C, nsP lcN [none, none])] at S₄
  refine compOut_any (LoopInv mg mb vs.length (fun i ob X => ∃ ys, ob = [(L, nsP ["row"] [some (.ref lcur)]), (c, cellP (some (.ref lr))), (D, listP ys), (C, nsP lcN [none, none])] ∧ IntsAre ys ((cur.take i).flatMap (stepL rs))) B
    [(L, nsP ["row"] [some (.ref lcur)]), (c, cellP (some (.ref lr))), (D, listP []), (C, nsP lcN [none, none])] [it] s
    (fun i s => s.heap.IsListIter it lcur i ∧ s.heap.IsList lcur vs.toArray)) ?_ vs.length
    ?zero (by intro _; rfl)
  case zero => exact ⟨0, _, B, rfl, Nat.zero_le _, ⟨[], rfl, by simpa using IntsAre.nil⟩, Sub.refl B, S₄, fun b hb => (hwr₄ b hb).1, Side.refl s, rfl, hst₄⟩
  intro k₅ s₅ hL₅ E₅
  refine step_all (Wk.list hh it lcur hne₂ vs _ _) s (fun b hb => (hwr₄ b hb).2) hfp₄ (fun _ hg => nomatch hg) _ (fun _ _ _ _ _ h => h)
    (fun v K s₁' => wpAny (model prog w) A (assign (.Name "number" ⟨43, 24, 43, 30⟩) cenv v) (fun _ s₂ => wpAny (model prog w) A (eval _ cenv) (fun x s₃ => wpAny (model prog w) A (pyIter x) (fun it₂ s₄ => codeAny (model prog w) A (.compStart (comp2 (.Name "part" ⟨43, 15, 43, 19⟩) (.Name "number" ⟨43, 24, 43, 30⟩) (.Name "row" ⟨43, 34, 43, 37⟩) (.Name "part" ⟨43, 42, 43, 46⟩) _ _ _) 1 it₂ (.ref D) cenv) (fun r s₅ => r = .ok .next ∧ K s₅) s₄) E₅ s₃) E₅ s₂) E₅ s₁')
    _ ?_ ?_ hL₅
  · rintro i v B₆ ob₆ s₆ K hi ⟨ys, rfl, hys⟩ hB₆ S₆ hv sd₆ hadr hK
    obtain ⟨n, tn, hn, rfl⟩ := intsAt hiv hv
    change St mg mb B₆ s₆.heap [(L, nsP ["row"] [some (.ref lcur)]), (c, cellP (some (.ref lr))), (D, listP ys), (C, nsP lcN [none, none]), (it, fun o => s₆.heap.get? it = some o)] at S₆
    refine assign_Name (stl 3 0 S₆ V₄ rfl rfl fun h₇ S₇ => ?_)
    change St mg mb B₆ h₇ [(L, nsP ["row"] [some (.ref lcur)]), (c, cellP (some (.ref lr))), (D, listP ys), (C, nsP lcN [some (.int n tn), none]), (it, fun o => s₆.heap.get? it = some o)] at S₇
    have hsn : Sym (f + 1) n := hsy n (List.mem_of_getElem? hn)
    have hft : (cur.take (i + 1)).flatMap (stepL rs) = (cur.take i).flatMap (stepL rs) ++ stepL rs n := by
      rw [List.take_add_one, hn]; simp
    have hyl : ys.length ≤ 800 := by
      have h1 := hys.length
      have h2 := flat_len rs (cur.take i)
      have h3 : (cur.take i).length ≤ cur.length := by rw [List.length_take]; omega
      omega
    -- the inner loop, over a tuple that stays
    have inner : ∀ (T : Addr) (xs : List Value) (B₈ : Rl) (h₈ : Heap) (tk₈ : Nat) (i₂ : PySem.Expr) (sc : Scope) (pos : Pos), Tup B₈ T xs → IntsAre xs (stepL rs n) → Sub B₆ B₈ →
        St mg mb B₈ h₈ [(L, nsP ["row"] [some (.ref lcur)]), (c, cellP (some (.ref lr))), (D, listP ys), (C, nsP lcN [some (.int n tn), none]), (it, fun o => s₆.heap.get? it = some o)] →
        wpAny (model prog w) A (pyIter (.ref T)) (fun it₂ s₄ => codeAny (model prog w) A (.compStart (comp2 (.Name "part" ⟨43, 15, 43, 19⟩) (.Name "number" ⟨43, 24, 43, 30⟩) (.Name "row" ⟨43, 34, 43, 37⟩) (.Name "part" ⟨43, 42, 43, 46⟩) i₂ sc pos) 1 it₂ (.ref D) cenv) (fun r s₅ => r = .ok .next ∧ K s₅) s₄) E₅ { s₆ with heap := h₈, toks := tk₈ } := by
      intro T xs B₈ h₈ tk₈ i₂ sc pos hT hxs hB₈ S₈
      refine iterT_ S₈ hT fun it₂ h₉ S₉ hwr₉ hfp₉ hne₉ hI₉ hT₉ => ?_
      have loop : codeAny (model prog w) A (.compLoop (comp2 (.Name "part" ⟨43, 15, 43, 19⟩) (.Name "number" ⟨43, 24, 43, 30⟩) (.Name "row" ⟨43, 34, 43, 37⟩) (.Name "part" ⟨43, 42, 43, 46⟩) i₂ sc pos) 1 (.ref it₂) (.ref D) cenv) (fun r s₅ => r = .ok .next ∧ K s₅) { s₆ with heap := h₉, toks := tk₈ } := by
        refine compIn_any (LoopInv mg mb xs.length (fun j ob X => ∃ zs, ob = [(L, nsP ["row"] [some (.ref lcur)]), (c, cellP (some (.ref lr))), (D, listP (ys ++ zs)), (C, nsP lcN [some (.int n tn), none]), (it, fun o => s₆.heap.get? it = some o)] ∧ zs = xs.take j) B₈
          [(L, nsP ["row"] [some (.ref lcur)]), (c, cellP (some (.ref lr))), (D, listP ys), (C, nsP lcN [some (.int n tn), none]), (it, fun o => s₆.heap.get? it = some o)] [it₂] s₆
          (fun i s => s.heap.IsTupleIter it₂ T i ∧ s.heap.IsTuple T xs.toArray)) ?_ xs.length ?zero
        case zero => exact ⟨0, _, B₈, rfl, Nat.zero_le _, ⟨[], by simp, by simp⟩, Sub.refl B₈, S₉, fun b hb => (hwr₉ b hb).1, Side.refl s₆, rfl, hI₉, hT₉⟩
        intro k s₁₀ hL₁₀ E₁₀
        refine step_all (Wk.tuple hh it₂ T hne₉ xs _ _) s₆ (fun b hb => (hwr₉ b hb).2) hfp₉ (fun _ hg => nomatch hg) _ (fun _ _ _ _ _ h => h)
          (fun v K s₁' => wpAny (model prog w) A (assign (.Name "part" ⟨43, 42, 43, 46⟩) cenv v) (fun _ s₂ => wpAny (model prog w) A (eval (.Name "part" ⟨43, 15, 43, 19⟩) cenv) (fun x s₄ => wpAny (model prog w) A (call (.builtin "list.append") [.ref D, x]) (fun _ s₅ => K s₅) E₁₀ s₄) E₁₀ s₂) E₁₀ s₁')
          _ ?_ ?_ hL₁₀
        · rintro j v B₁₁ ob₁₁ s₁₁ K₁₁ hj ⟨zs, rfl, rfl⟩ hB₁₁ S₁₁ hv₁₁ sd₁₁ hadr₁₁ hK₁₁
          change St mg mb B₁₁ s₁₁.heap [(L, nsP ["row"] [some (.ref lcur)]), (c, cellP (some (.ref lr))), (D, listP (ys ++ xs.take j)), (C, nsP lcN [some (.int n tn), none]), (it, fun o => s₆.heap.get? it = some o), (it₂, fun o => s₁₁.heap.get? it₂ = some o)] at S₁₁
          refine assign_Name (stl 3 1 S₁₁ V₄ rfl rfl fun h₁₂ S₁₂ => ?_)
          change St mg mb B₁₁ h₁₂ [(L, nsP ["row"] [some (.ref lcur)]), (c, cellP (some (.ref lr))), (D, listP (ys ++ xs.take j)), (C, nsP lcN [some (.int n tn), some v]), (it, fun o => s₆.heap.get? it = some o), (it₂, fun o => s₁₁.heap.get? it₂ = some o)] at S₁₂
          refine ldl 3 1 S₁₂ V₄ rfl rfl rfl ?_
          have hxl : xs.length ≤ 2 := by rw [hxs.length]; exact stepL_len rs n
          refine append_ 2 S₁₂ rfl (by rw [sizeLine_eq, List.length_append, List.length_take]; omega) fun h₁₃ S₁₃ => hK₁₁ _ ?_
          have S₁₄ := S₁₃.wk 3 rfl (nsP.weak (lv' := [some (.int n tn), none]) ⟨.inr rfl, .inl rfl, trivial⟩)
          refine ⟨_, B₁₁, ⟨_, rfl, rfl⟩, rfl, Sub.refl _, ?_, Side.refl _⟩
          have e : ys ++ xs.take j ++ [v] = ys ++ xs.take (j + 1) := by rw [List.take_add_one, hv₁₁]; simp
          rw [e] at S₁₄
          exact S₁₄
        · rintro ob₁₁ B₁₁ s₁₁ ⟨zs, rfl, rfl⟩ hB₁₁ S₁₁ sd₁₁ hadr₁₁
          refine ⟨rfl, hK _ ?_⟩
          rw [List.take_length] at S₁₁
          have S₁₂ := S₁₁.wk 3 rfl (nsP.weak (lv' := [none, none]) ⟨.inl rfl, .inl rfl, trivial⟩)
          exact ⟨_, B₁₁, ⟨ys ++ xs, rfl, by rw [hft]; exact intsApp hys hxs⟩, rfl, hB₈.trans hB₁₁, S₁₂, sd₁₁⟩
      exact compStart_in loop (wpAny_pyIter_tupleiter hI₉ loop)
    refine IfExp_ (wpAny_isTrue_Compare1 (ldl 3 0 S₇ V₄ rfl rfl rfl (wpAny_Constant_int (gt_int (wpAny_truthy_bool ?_)))))
    by_cases hbig : n > 255
    · rw [decide_eq_true hbig]
      simp only [if_true]
      obtain ⟨hlo, hhi⟩ : 256 ≤ n ∧ n < 256 + ((f + 1 : Nat) : Int) := hsn.elim (fun h => by have := h.lt; omega) id
      have hi' : (n - 256).toNat < rs.length := by omega
      obtain ⟨p, hpe⟩ : ∃ p, rs[(n - 256).toNat]? = some p := ⟨_, List.getElem?_eq_getElem hi'⟩
      obtain ⟨t₁, u₁, v₁, ht₁, htup⟩ := hrp _ p hpe
      refine Subscript_ (ldc 1 0 S₇ V₄ rfl rfl (wpAny_BinOp (ldl 3 0 S₇ V₄ rfl rfl rfl (wpAny_Constant_int (sub_int ?_)))))
      refine item_listL (hrl.mono (hB₆.trans S₇.hp)).isList (by omega) (by omega) (x := .ref t₁) (by simp [ht₁]) ?_
      refine inner t₁ [.int p.1 u₁, .int p.2 v₁] B₆ h₇ _ _ _ _ (htup.mono hB₆) ?_ (Sub.refl _) S₇
      have e : stepL rs n = [p.1, p.2] := by unfold stepL; rw [if_pos (by omega), hpe]
      rw [e]; exact .cons _ _ (.cons _ _ .nil)
    · rw [decide_eq_false hbig]
      simp only [Bool.false_eq_true, if_false]
      refine Tuple_ (args_cons (ldl 3 0 S₇ V₄ rfl rfl rfl (args_nil ?_)))
      refine newTuple_ S₇ (by rw [sizeLine_eq]; show 1 ≤ 16777216; decide) fun T h₈ S₈ => ?_
      have hTn : s.heap.get? s.heap.objs.size = none := by
        cases q : s.heap.get? s.heap.objs.size with
        | none => rfl
        | some o => exact absurd (Heap.lt_size q) (Nat.lt_irrefl _)
      obtain ⟨S₉, hB₉, hab⟩ := St.absorb (ob := [(L, nsP ["row"] [some (.ref lcur)]), (c, cellP (some (.ref lr))), (D, listP ys), (C, nsP lcN [some (.int n tn), none]), (it, fun o => s₆.heap.get? it = some o)]) (tl := [(T, tupP [.int n tn])]) S₈
      obtain ⟨o, ho, hp⟩ := hab T _ (List.mem_singleton.mpr rfl)
      refine inner T [.int n tn] _ h₈ _ _ _ _ ⟨o, ho, hp⟩ ?_ hB₉ S₉
      have e : stepL rs n = [n] := by unfold stepL; rw [if_neg (by omega)]
      rw [e]; exact .cons _ _ .nil
  · rintro ob₆ B₆ s₆ ⟨ys, rfl, hys⟩ hB₆ S₆ sd₆ hadr
    refine post_asg (ob := [(L, nsP ["row"] [some (.ref lcur)]), (c, cellP (some (.ref lr)))]) 0 0 V rfl rfl S₆ fun h₇ tk₇ S₇ => ?_
    change St mg mb B₆ h₇ ([(L, nsP ["row"] [some (.ref D)]), (c, cellP (some (.ref lr)))] ++ [(D, listP ys)]) at S₇
    obtain ⟨S₈, hB₈, hab⟩ := St.absorb S₇
    obtain ⟨o, ho, hp⟩ := hab D _ (List.mem_singleton.mpr rfl)
    rw [hvl, List.take_length] at hys
    refine h _ D _ (hB₆.trans hB₈) S₈ (fun h₀ hk => ⟨ys, ⟨o, ⟨ho, .inl ?_⟩, hp⟩, hys⟩) sd₆
    exact S₇.new (hk.trans hB₆) 2 rfl
theorem leaves_ok {rs : List (Int × Int)} {row : List Int} {lrow lr a : Addr} {R : Result → Shared → Prop} (hst : Strat rs) (h3 : rs.length = 3) (W : Wd mg mb s.heap) (ha : mg (defAt 11).name = some (.ref a)) (hrow : Ints (Hp s.heap) lrow row) (hr : Pairs (Hp s.heap) lr rs)
    (hne : row ≠ []) (hlen : row.length ≤ 50) (hsym : ∀ n ∈ row, Sym 3 n) (Rm : Room A 5 100) (h : ∀ s' r, Goes s s' → Ints (New s s' [lrow]) r (row.flatMap (expand rs 3)) → R (.ok (.ret (.ref r))) s') :
    codeAny (model prog w) A (.call (.ref a) ⟨[.ref lrow, .ref lr], []⟩) R s := by
  refine enterC (d := 4) (u := 90) 11 (by decide) ["row", "rules"] ["row"] ["max"] (lv := [some (.ref lrow)]) W ha (Rm.le (by omega) (by omega)) (by decide +kernel) (fun _ _ _ => rfl) rfl (fun i x v hi hv => ?_) ?_
  · rcases i with _ | i
    · simp at hi hv; subst hi; subst hv; rfl
    · simp at hi
  intro L h₁ tk env A' E V Rm' S
  change Ev env L ["row"] [("rules", L + 1)] _ at V
  change St mg mb _ h₁ [(L, nsP ["row"] [some (.ref lrow)]), (L + 1, cellP (some (.ref lr)))] at S
  generalize L + 1 = c at V S
  refine wpAny_execs_cons (wpAny_While (while_ (fun k s' => ∃ cur lcur B', k ≤ 3 ∧ St mg mb B' s'.heap [(L, nsP ["row"] [some (.ref lcur)]), (c, cellP (some (.ref lr)))] ∧ Sub (Hp s.heap) B' ∧
    Ints (Rs B' s.heap [lrow]) lcur cur ∧ (∀ n ∈ cur, Sym k n) ∧ cur ≠ [] ∧ cur.length * 2 ^ k ≤ 400 ∧ cur.flatMap (expand rs k) = row.flatMap (expand rs 3) ∧ Side s s') ?_ 3
    ⟨row, lrow, _, Nat.le_refl _, S, Sub.refl _, let ⟨vs, ⟨o, ho, hp⟩, hi⟩ := hrow; ⟨vs, ⟨o, ⟨ho, .inr (by simp)⟩, hp⟩, hi⟩, hsym, hne, by omega, rfl, Side.refl s⟩))
  rintro k s₁ ⟨cur, lcur, B₁, hk3, S₁, hB₁, hcur, hsy, hcne, hclen, hex, sd₁⟩ E₁
  refine wpAny_isTrue_Compare1 (bcall1 (id := "max") S₁ V (by decide) (by decide) (by rfl) (ldl 0 0 S₁ V rfl rfl rfl (max_ S₁ (hcur.mono Rs.sub) Rm'.hh hcne fun m t h₂ tk₂ hm hmx S₂ hk₂ => wpAny_Constant_int (gt_int (wpAny_truthy_bool ?_)))))
  have sd₂ : Side s { s₁ with heap := h₂, toks := tk₂ } := sd₁
  by_cases hbig : m > 255
  · rw [decide_eq_true hbig]
    simp only [if_true]
    obtain ⟨f, rfl⟩ : ∃ f, k = f + 1 := by
      cases k with
      | zero => rcases hsy m hm with h | h
                · have := h.lt; omega
                · omega
      | succ f => exact ⟨f, rfl⟩
    have hcl : cur.length * 2 ≤ 400 := by
      have h1 : cur.length * 2 ≤ cur.length * 2 ^ (f + 1) := Nat.mul_le_mul_left _ (by rw [Nat.pow_succ]; have := Nat.one_le_two_pow (n := f); omega)
      omega
    refine wpAny_execs_cons (leaves_comp Rm'.hh hst h3 (by omega) V S₂ (hcur.mono Rs.sub) (hr.mono hB₁) hsy (by omega) fun s₃ D B₃ hB₃ S₃ hD sd₃ => wpAny_execs_nil ?_)
    have key : ∀ l : List Int, (∀ n ∈ l, Sym (f + 1) n) → (∀ m ∈ l.flatMap (stepL rs), Sym f m) ∧ (l.flatMap (stepL rs)).flatMap (expand rs f) = l.flatMap (expand rs (f + 1)) ∧ (l ≠ [] → l.flatMap (stepL rs) ≠ []) := by
      intro l
      induction l with
      | nil => intro _; simp
      | cons x r ih =>
        intro hx
        obtain ⟨i1, i2, i3⟩ := ih fun n hn => hx n (.tail _ hn)
        obtain ⟨j1, j2, _, j3⟩ := stepL_expand hst (by omega) (hx x (.head _))
        refine ⟨fun m hm => ?_, by simp only [List.flatMap_cons, List.flatMap_append, i2, j2], fun _ => by simp [j3]⟩
        rcases List.mem_append.mp (by simpa only [List.flatMap_cons] using hm) with h | h
        · exact j1 m h
        · exact i1 m h
    obtain ⟨k1, k2, k3⟩ := key cur hsy
    refine ⟨f, Nat.lt_succ_self _, _, D, B₃, by omega, S₃, hB₁.trans hB₃, (hD s.heap hB₁).mono fun b o e => ⟨e.1, e.2.elim .inl fun h => nomatch h⟩, k1, k3 hcne, ?_, k2.trans hex, sd₂.trans sd₃⟩
    have h1 := flat_len rs cur
    have h2 : (cur.flatMap (stepL rs)).length * 2 ^ f ≤ 2 * cur.length * 2 ^ f := Nat.mul_le_mul_right _ h1
    rw [Nat.pow_succ] at hclen
    have h3 : 2 * cur.length * 2 ^ f = cur.length * (2 ^ f * 2) := by rw [Nat.mul_comm 2, Nat.mul_assoc, Nat.mul_comm 2]
    omega
  · rw [decide_eq_false hbig]
    simp only [Bool.false_eq_true, if_false]
    have hall : cur.flatMap (expand rs k) = cur := by
      have : ∀ l : List Int, (∀ n ∈ l, n < 256) → l.flatMap (expand rs k) = l := by
        intro l
        induction l with
        | nil => intro _; rfl
        | cons x r ih =>
          intro hx
          rw [List.flatMap_cons, ih fun n hn => hx n (.tail _ hn), expand_leaf _ _ (hx x (.head _))]; rfl
      exact this cur fun n hn => by have := hmx n hn; omega
    rw [hall] at hex
    rw [← hex] at h
    refine wpAny_execs_cons (wpAny_Return_some (ldl 0 0 S₂ V rfl rfl rfl ?_))
    exact h _ lcur ⟨fun b o e => S₂.keep b o (hB₁ b o e), sd₂⟩ (hcur.mono (Y := New s _ [lrow]) fun b o e => ⟨S₂.keep b o e.1, e.2⟩)
end
end Mine
end
/-! ## F9 -/
section
set_option maxRecDepth 100000
set_option maxHeartbeats 4000000
open PySem PySem.Calls PySem.W PyProof.Rows
namespace Mine
/-- an iterator whose own objects may grow in number; X is what it reads -/
structure WkG (prog : Program) (w : World) (A : Around) (I : Addr) (X₀ : Rl) (gs : List Nat) (n : Nat) (target : PySem.Expr) (P : Nat → Value → Rl → Prop) (Stt : List Addr → Nat → Shared → Prop) (Mid : List Addr → Nat → Value → Shared → Prop) : Prop where
  mono : ∀ i v X Y, Sub X Y → P i v X → P i v Y
  nd : ∀ wr i s, Stt wr i s → wr.Nodup
  here : ∀ wr i s, Stt wr i s → ∀ b ∈ wr, ∃ o, s.heap.get? b = some o
  frame : ∀ wr i s s', Stt wr i s → (∀ b o, X₀ b o → s'.heap.get? b = some o) → (∀ b ∈ wr, ∀ o, s.heap.get? b = some o → s'.heap.get? b = some o) → (∀ g ∈ gs, ∀ x, s.gens[g]? = some x → s'.gens[g]? = some x) → Stt wr i s'
  item : ∀ wr i (s : Shared) (Q : Option Value → Shared → Prop) (E : Value → Shared → Prop), i < n → Stt wr i s →
    (∀ v s' wr', (∀ b ∈ wr', b ∈ wr ∨ s.heap.get? b = none) → P i v (fun b o => Nw s s' b o ∧ b ∉ wr') → Mid wr' i v s' → Mv wr gs s s' → Q (some v) s') → wpAny (model prog w) A (pyNext (.ref I)) Q E s
  go : ∀ wr i v (s : Shared) (Q : Unit → Shared → Prop) (E : Value → Shared → Prop), Mid wr i v s → (∀ s', Stt wr (i + 1) s' → Mv wr gs s s' → Q () s') → wpAny (model prog w) A (letOwnedTupleGo target (.ref I) v) Q E s
  self : ∀ wr i (s : Shared) (Q : Value → Shared → Prop) (E : Value → Shared → Prop), Stt wr i s → Q (.ref I) s → wpAny (model prog w) A (pyIter (.ref I)) Q E s

def LoopG (mg mb : Str → Option Value) (n : Nat) (Inv : Nat → Ob → Rl → Prop) (B : Rl) (ob : Ob) (s₀ : Shared) (Stt : List Addr → Nat → Shared → Prop) (k : Nat) (s' : Shared) : Prop :=
  ∃ wr i ob' B', k = n - i ∧ i ≤ n ∧ Inv i ob' B' ∧ Sub B B' ∧ St mg mb B' s'.heap ob' ∧ (∀ b ∈ wr, (∀ o, ¬ B' b o) ∧ b ∉ ob.map (·.1)) ∧ Side s₀ s' ∧ ob'.map (·.1) = ob.map (·.1) ∧ Stt wr i s'

section
variable {prog : Program} {w : World} {A : Around} {s : Shared} {mg mb : Str → Option Value} {B : Rl} {ob : Ob}
theorem step_g {target : PySem.Expr} {I : Addr} {X₀ : Rl} {gs : List Nat} {n : Nat} {P : Nat → Value → Rl → Prop} {Stt : List Addr → Nat → Shared → Prop} {Mid : List Addr → Nat → Value → Shared → Prop}
    (W : WkG prog w A I X₀ gs n target P Stt Mid) (s₀ : Shared) (hX : Sub X₀ B) (hgs : ∀ g ∈ gs, s₀.gens[g]? = none)
    (Inv : Nat → Ob → Rl → Prop) (hmono : ∀ i ob X Y, Sub X Y → Inv i ob X → Inv i ob Y) (T : Value → (Shared → Prop) → Shared → Prop) (D : Shared → Prop) {E : Value → Shared → Prop} {k : Nat}
    (turn : ∀ wr i v B' ob₁ s₁ K, i < n → Inv i ob₁ B' → Sub B B' → St mg mb B' s₁.heap (ob₁ ++ keepers wr s₁.heap) → P i v B' → Side s₀ s₁ → ob₁.map (·.1) = ob.map (·.1) →
      (∀ s₃, Turned mg mb Inv ob wr i B' s₁ s₃ → K s₃) → T v K s₁)
    (done : ∀ wr ob' B' s', Inv n ob' B' → Sub B B' → St mg mb B' s'.heap ob' → (∀ b ∈ wr, (∀ o, ¬ B' b o) ∧ b ∉ ob'.map (·.1)) → Side s₀ s' → ob'.map (·.1) = ob.map (·.1) → Stt wr n s' → wpAny (model prog w) A (pyNext (.ref I)) (fun r s₁ => r = none ∧ D s₁) E s')
    (h : LoopG mg mb n Inv B ob s₀ Stt k s) :
    wpAny (model prog w) A (pyNext (.ref I)) (fun r s₁ => match r with
      | none => D s₁
      | some v => wpAny (model prog w) A (letOwnedTupleGo target (.ref I) v) (fun _ s₂ => T v (fun s₄ => ∃ m, m < k ∧ LoopG mg mb n Inv B ob s₀ Stt m s₄) s₂) E s₁) E s := by
  obtain ⟨wr, i, ob', B', rfl, hi, hI, hB, S', hw', sd', hadr, hst'⟩ := h
  have hw₁ : ∀ b ∈ wr, (∀ o, ¬ B' b o) ∧ b ∉ ob'.map (·.1) := fun b hb => ⟨(hw' b hb).1, by rw [hadr]; exact (hw' b hb).2⟩
  by_cases hlt : i < n
  · refine W.item wr i s _ _ hlt hst' fun v s₁ wr' hwr' hP hM m₁ => ?_
    refine W.go wr' i v s₁ _ _ hM fun s₂ hst₂ m₂ => ?_
    have hw₂ : ∀ b ∈ wr', (∀ o, ¬ B' b o) ∧ b ∉ ob'.map (·.1) := fun b hb => by
      rcases hwr' b hb with h | h
      · exact hw₁ b h
      · refine ⟨fun o e => ?_, fun hm => ?_⟩
        · have := S'.keep b o e; rw [h] at this; cases this
        · obtain ⟨o, e⟩ := S'.there hm; rw [h] at e; cases e
    have S₁ := S'.mv hw₁ m₁
    have S₂ := S₁.mv hw₂ m₂
    have S₃ := (S₂.withKeepers hw₂ (W.nd _ _ _ hst₂) (W.here _ _ _ hst₂))
    have S₄ := S₃.max
    have hB' : Sub B' (Mx (ob' ++ keepers wr' s₂.heap) s₂.heap) := S₃.subMx
    have hPX : P i v (Mx (ob' ++ keepers wr' s₂.heap) s₂.heap) := by
      refine W.mono i v _ _ ?_ hP
      rintro b o ⟨⟨hn, ho⟩, nw⟩
      refine ⟨m₂.1 b o nw ho, fun hm => ?_⟩
      rw [List.map_append, keepers_fst] at hm
      rcases List.mem_append.mp hm with hm | hm
      · obtain ⟨o', ho'⟩ := S'.there hm; rw [hn] at ho'; cases ho'
      · exact nw hm
    refine turn wr' i v _ ob' s₂ _ hlt (hmono _ _ _ _ hB' hI) (hB.trans hB') S₄ hPX (m₂.side (m₁.side sd' hgs) hgs) hadr ?_
    rintro s₄ ⟨ob₃, B₃, hI₃, hadr₃, hs₃, T, sd₄⟩
    refine ⟨n - (i + 1), by omega, wr', i + 1, ob₃, B₃, rfl, hlt, hI₃, (hB.trans hB').trans hs₃, T.sub (List.sublist_append_left _ _), fun b hb => ⟨fun o e => ?_, by rw [← hadr]; exact (hw₂ b hb).2⟩, (m₂.side (m₁.side sd' hgs) hgs).trans sd₄, hadr₃, ?_⟩
    · exact (T.own (b, fun o => s₂.heap.get? b = some o) (List.mem_append_right _ (List.mem_map.mpr ⟨b, hb, rfl⟩))).2 o e
    · refine W.frame _ _ _ _ hst₂ (fun b o e => T.keep b o (((hX.trans (hB.trans hB')).trans hs₃) b o e)) (fun b hb o ho => ?_) (fun g _ x e => sd₄.2.1 g x e)
      obtain ⟨o', ho', he⟩ := (T.own (b, fun o => s₂.heap.get? b = some o) (List.mem_append_right _ (List.mem_map.mpr ⟨b, hb, rfl⟩))).1
      have he' : s₂.heap.get? b = some o' := he
      rw [ho] at he'; cases he'
      exact ho'
  · have e : i = n := by omega
    subst e
    refine wpAny_mono (done wr ob' B' s hI hB S' hw₁ sd' hadr hst') (fun r s₁ h₁ => ?_) fun _ _ e => e
    obtain ⟨rfl, h₁⟩ := h₁
    exact h₁
theorem LoopG.zero {wr : List Addr} {n : Nat} {Stt : List Addr → Nat → Shared → Prop} {s₀ : Shared} (S : St mg mb B s.heap ob) (hwr : ∀ b ∈ wr, (∀ o, ¬ B b o) ∧ b ∉ ob.map (·.1)) (hsd : Side s₀ s) (hst : Stt wr 0 s) {Inv : Nat → Ob → Rl → Prop} (h0 : Inv 0 ob B) : LoopG mg mb n Inv B ob s₀ Stt n s :=
  ⟨wr, 0, ob, B, rfl, Nat.zero_le _, h0, Sub.refl B, S, hwr, hsd, rfl, hst⟩

theorem for_g {R : Result → Shared → Prop} {target : PySem.Expr} {body : List Stmt} {env : Env} {I : Addr} {X₀ : Rl} {gs : List Nat} {n : Nat} {P : Nat → Value → Rl → Prop} {Stt : List Addr → Nat → Shared → Prop} {Mid : List Addr → Nat → Value → Shared → Prop} {wr : List Addr}
    (W : WkG prog w A I X₀ gs n target P Stt Mid) (s₀ : Shared) (hX : Sub X₀ B) (S : St mg mb B s.heap ob) (hwr : ∀ b ∈ wr, (∀ o, ¬ B b o) ∧ b ∉ ob.map (·.1)) (hsd : Side s₀ s) (hgs : ∀ g ∈ gs, s₀.gens[g]? = none)
    (hst : Stt wr 0 s) (Inv : Nat → Ob → Rl → Prop) (h0 : Inv 0 ob B) (hmono : ∀ i ob X Y, Sub X Y → Inv i ob X → Inv i ob Y)
    (turn : ∀ wr i v B' ob₁ s₁ E, i < n → Inv i ob₁ B' → Sub B B' → St mg mb B' s₁.heap (ob₁ ++ keepers wr s₁.heap) → P i v B' → Side s₀ s₁ → ob₁.map (·.1) = ob.map (·.1) →
      wpAny (model prog w) A (assign target env v) (fun _ s₂ => wpAny (model prog w) A (execs body env) (Post R (Turned mg mb Inv ob wr i B' s₁)) E s₂) E s₁)
    (done : ∀ E wr ob' B' s', Inv n ob' B' → Sub B B' → St mg mb B' s'.heap ob' → (∀ b ∈ wr, (∀ o, ¬ B' b o) ∧ b ∉ ob'.map (·.1)) → Side s₀ s' → ob'.map (·.1) = ob.map (·.1) → Stt wr n s' → wpAny (model prog w) A (pyNext (.ref I)) (fun r s₁ => r = none ∧ R (.ok .next) s₁) E s') :
    codeAny (model prog w) A (.forLoop target (.ref I) body [] env) R s := by
  refine codeAny_forLoop_any (LoopG mg mb n Inv B ob s₀ Stt) ?_ n (LoopG.zero S hwr hsd hst h0)
  intro k s' hL
  have key := step_g (E := notedBy (model prog w) A env fun e s' => R (.error e) s') W s₀ hX hgs Inv hmono
    (fun v K s₁ => wpAny (model prog w) A (assign target env v) (fun _ s₂ => wpAny (model prog w) A (execs body env) (Post R K) (notedBy (model prog w) A env fun e s' => R (.error e) s') s₂) (notedBy (model prog w) A env fun e s' => R (.error e) s') s₁) (R (.ok .next))
    (fun wr i v B' ob₁ s₁ K a b c d e f g hK => wpAny_mono (turn wr i v B' ob₁ s₁ _ a b c d e f g) (fun _ s₃ h₃ => wpAny_mono h₃ (fun fl s₄ h₄ => by
      cases fl with
      | next => exact hK _ h₄
      | cont => exact hK _ h₄
      | brk => exact h₄
      | ret v => exact h₄) fun _ _ e => e) fun _ _ e => e) (done _) hL
  refine wpAny_mono key (fun r s₁ h₁ => ?_) fun _ _ e => e
  cases r with
  | none => exact wpAny_execs_nil h₁
  | some v =>
    refine wpAny_mono h₁ (fun _ s₂ h₂ => wpAny_mono h₂ (fun _ s₃ h₃ => wpAny_mono h₃ (fun fl s₄ h₄ => ?_) fun _ _ e => e) fun _ _ e => e) fun _ _ e => e
    cases fl with
    | next => exact h₄
    | cont => exact h₄
    | brk => exact h₄
    | ret v => exact h₄
end

section
variable {prog : Program} {w : World} {A : Around} {R : GenEnd} {Y : Protocol} {n : Nat} {s₀ : Shared} {c : Code} {fs : List Frame} {s : Shared} {env : Env} {α β : Type}
theorem seg_w {m : Sem α} {K : α → Sem Fin} {H : Value → Sem Fin} {gd : Bool → Bool} {lv : List Value → List Value} (h : ∀ E, wpAny (model prog w) (A.over c fs) m (fun a s' => Seg (model prog w) A R Y n s₀ c (K a) fs s') E s) :
    Seg (model prog w) A R Y n s₀ c (m.wrap K H gd lv) fs s := seg_wrap (h _)
theorem seg_b {m : Sem α} {f : α → Sem β} {K : β → Sem Fin} {H : Value → Sem Fin} {gd : Bool → Bool} {lv : List Value → List Value} (h : ∀ E, wpAny (model prog w) (A.over c fs) m (fun a s' => Seg (model prog w) A R Y n s₀ c ((f a).wrap K H gd lv) fs s') E s) :
    Seg (model prog w) A R Y n s₀ c ((m >>= f).wrap K H gd lv) fs s := seg_bind_wrap (h _)
theorem seg_b0 {m : Sem α} {f : α → Sem Fin} (h : ∀ E, wpAny (model prog w) (A.over c fs) m (fun a s' => Seg (model prog w) A R Y n s₀ c (f a) fs s') E s) :
    Seg (model prog w) A R Y n s₀ c (m >>= f) fs s := seg_bind (h _)
theorem seg_if {K : Flow → Sem Fin} {H : Value → Sem Fin} {gd : Bool → Bool} {lv : List Value → List Value} {test : PySem.Expr} {body orelse : List Stmt} {pos : Pos}
    (h : ∀ E, wpAny (model prog w) (A.over c fs) (isTrue test env (eval test env)) (fun b s' => Seg (model prog w) A R Y n s₀ c ((if b = true then execs body env else execs orelse env).wrap K H gd lv) fs s') E s) :
    Seg (model prog w) A R Y n s₀ c ((exec (.If test body orelse pos) env).wrap K H gd lv) fs s := by
  rw [exec_If]
  refine seg_b fun E => wpAny_standAt ?_
  exact seg_b h
/-- a for ahead of its loop: the loop's frame hands its end on as K says -/
theorem seg_for {K : Flow → Sem Fin} {H : Value → Sem Fin} {gd : Bool → Bool} {lv : List Value → List Value} {target iter : PySem.Expr} {body : List Stmt} {pos : Pos}
    (h : ∀ E, wpAny (model prog w) (A.over c fs) (eval iter env) (fun x s₁ => wpAny (model prog w) (A.over c fs) (pyIter x) (fun it s₂ => ∀ k : Result → Sem Fin, (∀ f, k (.ok f) = K f) → ∀ p, Seg (model prog w) A R Y n s₀ (.forLoop target it body [] env) ((model prog w).den (.forLoop target it body [] env))
      (.ret k none (gd false) (lv []) c p [] :: fs) s₂) E s₁) E s)
    (hs : ∀ x, foldedSetIterable iter env x = pure x := by intro _; rfl) :
    Seg (model prog w) A R Y n s₀ c ((exec (.For target iter body [] pos) env).wrap K H gd lv) fs s := by
  rw [exec_For]
  refine seg_b fun E => wpAny_standAt ?_
  have h₀ := h (fun x s' => Seg (model prog w) A R Y n s₀ c (H x) fs s')
  refine seg_bind_wrap (wpAny_mono h₀ (fun x s₁ h₁ => ?_) fun _ _ e => e)
  refine seg_b fun E => wpAny_of_eq (hs x) ?_
  refine seg_b fun E => wpAny_standAt ?_
  refine seg_bind_wrap (wpAny_holding (wpAny_mono h₁ (fun it s₂ h₂ => ?_) fun _ _ e => e))
  exact seg_call (h₂ _ fun _ => rfl)
theorem seg_forLoop {k : Result → Sem Fin} {h₁ : Option Value} {g : Bool} {l : List Value} {c₁ : Code} {p₁ : Pos} {kp : List Value} {target : PySem.Expr} {it : Value} {body : List Stmt}
    (h : ∀ E, wpAny (model prog w) (A.over (.forLoop target it body [] env) (.ret k h₁ g l c₁ p₁ kp :: fs)) (pyNext it) (fun r s₁ => match r with
      | none => Seg (model prog w) A R Y n s₀ c₁ (k (.ok .next)) fs s₁
      | some v => wpAny (model prog w) (A.over (.forLoop target it body [] env) (.ret k h₁ g l c₁ p₁ kp :: fs)) (letOwnedTupleGo target it v) (fun _ s₂ =>
          wpAny (model prog w) (A.over (.forLoop target it body [] env) (.ret k h₁ g l c₁ p₁ kp :: fs)) (assign target env v) (fun _ s₃ =>
            Seg (model prog w) A R Y n s₀ (.forLoop target it body [] env) ((execs body env).wrap (fun f => match f with
              | .next | .cont => .pure (.again (.forLoop target it body [] env))
              | .brk => .pure (.done .next)
              | .ret v => .pure (.done (.ret v))) (fun e => (do noteFrame e env; theTreesLotGoes e : Sem Unit).wrap (fun _ => .raise e) .raise id id) id id) (.ret k h₁ g l c₁ p₁ kp :: fs) s₃) E s₂) E s₁) E s) :
    Seg (model prog w) A R Y n s₀ (.forLoop target it body [] env) ((model prog w).den (.forLoop target it body [] env)) (.ret k h₁ g l c₁ p₁ kp :: fs) s := by
  show Seg _ A R Y n s₀ _ ((forTurn target it body [] env).onRaise (fun x => do noteFrame x env; theTreesLotGoes x)) _ s
  unfold forTurn
  rw [Sem.onRaise_eq_wrap]
  refine seg_b fun E => wpAny_standAt ?_
  refine seg_bind_wrap (wpAny_onRaise (wpAny_mono (h _) (fun r s₁ h₁ => ?_) fun x s' h' => wpAny_standAt h'))
  cases r with
  | none =>
    refine seg_again rfl ?_
    show Seg _ A R Y n s₀ (.block [] env) (leafOf (.ok .next)) _ s₁
    exact seg_leaf (.ok .next) h₁
  | some v =>
    refine seg_bind_wrap (wpAny_mono h₁ (fun _ s₂ h₂ => ?_) fun _ _ e => e)
    refine seg_bind_wrap (wpAny_mono h₂ (fun _ s₃ h₃ => ?_) fun _ _ e => e)
    rw [Sem.bind_eq_wrap', Sem.wrap_wrap]
    rw [Sem.wrap_congr (execs body env) _ _ (K' := fun f => match f with
            | .next | .cont => .pure (.again (.forLoop target it body [] env))
            | .brk => .pure (.done .next)
            | .ret v => .pure (.done (.ret v))) (H' := (fun e => (do noteFrame e env; theTreesLotGoes e : Sem Unit).wrap (fun _ => .raise e) .raise id id))
        (fun f => by cases f <;> rfl)
        (fun e => by first | exact Sem.bind_eq_wrap _ _ | (show (do noteFrame e env; theTreesLotGoes e : Sem Unit).bind (fun _ => .raise e) = _; rw [Sem.bind_eq_wrap]))]
    exact h₃
end
end Mine
end
/-! ## F10 -/
section
set_option maxRecDepth 100000
set_option maxHeartbeats 4000000
open PySem PySem.Calls PySem.W PyProof.Rows
namespace Mine
section
variable {prog : Program} {w : World} {A : Around} {E : Value → Shared → Prop} {s : Shared}
/-- next of a generator made by a def: what it yields, or its end; it stays without clean-up -/
theorem next_gen {a : Addr} {g n : Nat} {gs : GenState} {P : Nat → Shared → Shared → Prop} {Y : Protocol} {Q : Option Value → Shared → Prop} (hh : A.handled = none)
    (hl : s.heap.NoLimit) (hroom : A.depth < recursionLimit) (hg : s.heap.IsGen a g) (hgs : s.gens[g]? = some gs)
    (hgo : gs.Goes (model prog w) A.in1 (fun n s₀ r s₁ => r = .ok (.ret .none) ∧ P n s₀ s₁) Y n (.send .none) (s.setGen g .running))
    (hY : ∀ v s₁ gs', gs'.bare = true → Y (n - 1) (s.setGen g .running) v s₁ (fun r' s'' => match n with
        | 0 => False
        | m + 1 => gs'.Goes (model prog w) A.in1 (fun n s₀ r s₁ => r = .ok (.ret .none) ∧ P n s₀ s₁) Y m r' s'') → Q (some v) (s₁.setGen g gs'))
    (hP : ∀ s₁, P n (s.setGen g .running) s₁ → ∀ h', (∀ b o, s₁.heap.get? b = some o → h'.get? b = some o) → Q none { s₁.setGen g .finished with heap := h' }) :
    wpAny (model prog w) A (pyNext (.ref a)) Q E s := by
  have wake : wpAny (model prog w) A.in1 (Builtin.Generator.genWake (.ref a) (.send .none)) (fun fin s' => match fin with
      | .done (.ret v) => Q (some v) s'
      | _ => False) (fun e s' => (∃ o, ∃ x, e = .ref x ∧ s'.heap.get? x = some o ∧ o.cls = .type "StopIteration") ∧ Q none s') s := by
    unfold Builtin.Generator.genWake
    refine wpAny_bind (wpAny_holding (wpAny_genNumber hg (wpAny_bind (wpAny_genState hgs ?_))))
    cases gs with
    | running => exact hgo.elim
    | finished => exact hgo.elim
    | _ =>
      refine wpAny_bind (wpAny_roomToWake hl hroom ?_)
      refine wpAny_resumeQ hgs hgo (fun x s₁ hx => ?_) (fun v s₁ gs' hb hv => wpAny_pure (hY v s₁ gs' hb hv))
      obtain ⟨rfl, hp⟩ := hx
      show wpAny _ _ (newExc (.type "StopIteration") [] >>= _) _ _ _
      simp only [newExc, newTuple]
      refine wpAny_bind (wpAny_bind (wpAny_newObj_type ?_ (by size_fits)))
      refine wpAny_bind (m := firstArgMember _ _) (wpAny_of_eq (a := Value.none) (by first | rfl | (simp only [firstArgMember]; rfl)) ?_)
      refine wpAny_newObj_type ?_ (by size_fits)
      simp only [raiseNew]
      refine wpAny_bind (wpAny_bind (wpAny_handled ?_))
      first | rw [show A.in1.handled = none from hh] | rw [hh]
      refine wpAny_throw ⟨⟨_, _, rfl, Heap.get?_push_size _ rfl, rfl⟩, ?_⟩
      exact hP s₁ hp _ fun b o hb => Heap.get?_push_of_some _ (Heap.get?_push_of_some _ hb)
  unfold pyNext
  refine wpAny_bind (wpAny_attempt (wpAny_callSpecial?_slot (name := Str.ofString "__next__") hg.typeIs slot_gen_next
    (wpAny_call_entry slot_gen_next hg.typeIs entry_gen_next (wpAny_mono wake (fun fin s' h => ?_) fun e s' h => ?_) (args_gen_next _))))
  · rcases fin with f | c
    · cases f with
      | ret v => exact ⟨v, rfl, wpAny_pure h⟩
      | _ => exact h.elim
    · exact h.elim
  · obtain ⟨⟨o, x, rfl, ho, hc⟩, hq⟩ := h
    exact wpAny_bind (wpAny_isInstance (T := "StopIteration") (b := true) ⟨o, ho, hc⟩ isSubtype_stop (wpAny_pure hq))
end

def MxA (wr : List Addr) (h : Heap) : Rl := fun b o => h.get? b = some o ∧ b ∉ wr
def Mv0 (wr : List Addr) (s s' : Shared) : Prop := (∀ b o, b ∉ wr → s.heap.get? b = some o → s'.heap.get? b = some o) ∧ s'.os = s.os ∧ s'.gens = s.gens
def genP (g : Nat) : Th := fun o => ∃ nm qn, o.cls = .type "generator" ∧ o.data = .fields #[.int g 0, nm, qn] ∧ o.slots = #[]
def Yp (mg mb : Str → Option Value) (X : Rl) (wr : List Addr) (OB : Nat → Ob) (P : Nat → Value → Rl → Prop) (N : Nat) (fin : Prop) : Protocol := fun m s₀ v s₁ kap =>
  P (N - (m + 1)) v (fun b o => Nw s₀ s₁ b o ∧ b ∉ wr) ∧ Mv0 wr s₀ s₁ ∧ St mg mb X s₁.heap (OB (N - m)) ∧ ((fin ∨ 0 < m) → ∀ s'' : Shared, St mg mb X s''.heap (OB (N - m)) → kap (.send .none) s'')
def Rp (wr : List Addr) : GenEnd := fun n s₀ r s₁ => r = .ok (.ret .none) ∧ n = 0 ∧ Mv0 wr s₀ s₁
def GenStt (prog : Program) (w : World) (A : Around) (mg mb : Str → Option Value) (X : Rl) (g : Nat) (c : Code) (L : Addr) (F₀ : Th) (OB : List Addr → Nat → Ob) (P : Nat → Value → Rl → Prop) (N : Nat) (fin : Prop) (wr : List Addr) (i : Nat) (s : Shared) : Prop :=
  (i = 0 ∧ wr = [L] ∧ St mg mb X s.heap [(L, F₀)] ∧ s.gens[g]? = some (.fresh c)) ∨
  (∃ xs, wr = L :: xs ∧ St mg mb X s.heap (OB xs i) ∧ ∃ gs, s.gens[g]? = some gs ∧ ((fin ∨ i < N) → ∀ s' : Shared, St mg mb X s'.heap (OB xs i) → gs.Goes (model prog w) A.in1 (Rp wr) (Yp mg mb X wr (OB xs) P N fin) (N - i) (.send .none) s'))

section
variable {prog : Program} {w : World} {A : Around} {s : Shared} {mg mb : Str → Option Value} {X : Rl}
theorem St.relabel {B : Rl} {h h' : Heap} {ob : Ob} (S : St mg mb B h ob) (hB : ∀ b o, B b o → h'.get? b = some o) (ho : ∀ b ∈ ob.map (·.1), ∀ o, h.get? b = some o → h'.get? b = some o) : St mg mb B h' ob :=
  ⟨S.wd, hB, fun p hp => ⟨(S.own p hp).1.keep fun o e => ho _ (List.mem_map_of_mem hp) o e, (S.own p hp).2⟩, S.dis⟩
theorem gens_set {s s₁ : Shared} {g g' : Nat} {a b : GenState} (h : s₁.gens = (s.setGen g a).gens) (hne : g' ≠ g) {x : GenState} (e : s.gens[g']? = some x) : (s₁.setGen g b).gens[g']? = some x := by
  show (s₁.gens.setIfInBounds g b)[g']? = some x
  rw [h]
  show ((s.gens.setIfInBounds g a).setIfInBounds g b)[g']? = some x
  rw [Array.getElem?_setIfInBounds_ne (Ne.symm hne), Array.getElem?_setIfInBounds_ne (Ne.symm hne)]
  exact e
theorem gens_bare {s s₁ : Shared} {g : Nat} {a b : GenState} (h : s₁.gens = (s.setGen g a).gens) (hb : b.bare = true) (x : AllBare s.gens) : AllBare (s₁.setGen g b).gens := by
  intro y hy
  have hy' : y ∈ ((s.gens.setIfInBounds g a).setIfInBounds g b) := by
    have : (s₁.setGen g b).gens = (s.gens.setIfInBounds g a).setIfInBounds g b := by
      show s₁.gens.setIfInBounds g b = _
      rw [h]; rfl
    rw [← this]; exact hy
  obtain ⟨i, hi, rfl⟩ := Array.mem_iff_getElem.mp hy'
  rw [Array.getElem_setIfInBounds (by simpa using hi)]
  split
  · exact hb
  · rename_i hne
    have hi' : i < s.gens.size := by simpa using hi
    rw [Array.getElem_setIfInBounds_ne hi' (by omega)]
    exact x _ (Array.getElem_mem _)
theorem gens_here {s s₁ : Shared} {g : Nat} {a b x : GenState} (h : s₁.gens = (s.setGen g a).gens) (e : s.gens[g]? = some x) : (s₁.setGen g b).gens[g]? = some b := by
  have hlt : g < s.gens.size := (Array.getElem?_eq_some_iff.mp e).1
  show (s₁.gens.setIfInBounds g b)[g]? = some b
  rw [h]
  show ((s.gens.setIfInBounds g a).setIfInBounds g b)[g]? = some b
  rw [Array.getElem?_setIfInBounds_self_of_lt (by simpa using hlt)]

theorem WkG.gen {I : Addr} {g : Nat} {c : Code} {L : Addr} {F₀ : Th} {OB : List Addr → Nat → Ob} {P : Nat → Value → Rl → Prop} {N : Nat} {fin : Prop} {target : PySem.Expr} (hh : A.handled = none) (hroom : A.depth < recursionLimit)
    (hI : ∃ o, X I o ∧ genP g o) (hN : fin ∨ 0 < N) (hOB : ∀ xs i, (OB xs i).map (·.1) = L :: xs) (hmono : ∀ i v X Y, Sub X Y → P i v X → P i v Y)
    (hgo : ∀ (v : Value) (s : Shared) (Q : Unit → Shared → Prop) (E : Value → Shared → Prop), s.heap.IsGen I g → Q () s → wpAny (model prog w) A (letOwnedTupleGo target (.ref I) v) Q E s)
    (first : ∀ s : Shared, St mg mb X s.heap [(L, F₀)] → ∃ xs, (∀ b ∈ xs, s.heap.get? b = none) ∧ Seg (model prog w) A.in1 (Rp (L :: xs)) (Yp mg mb X (L :: xs) (OB xs) P N fin) N s c ((model prog w).den c) [] s) :
    WkG prog w A I X [g] N target P (GenStt prog w A mg mb X g c L F₀ OB P N fin) (fun wr i _ s => GenStt prog w A mg mb X g c L F₀ OB P N fin wr (i + 1) s) where
  mono := hmono
  nd := fun wr i s st => by
    rcases st with ⟨_, rfl, _⟩ | ⟨xs, rfl, S, _⟩
    · simp
    · rw [← hOB xs i]; exact S.dis
  here := fun wr i s st b hb => by
    rcases st with ⟨_, rfl, S, _⟩ | ⟨xs, rfl, S, _⟩
    · exact S.there (by simpa using hb)
    · exact S.there (by rw [hOB]; exact hb)
  frame := fun wr i s s' st k₁ k₂ k₃ => by
    rcases st with ⟨h0, rfl, S, hg⟩ | ⟨xs, rfl, S, gs, hg, hgo⟩
    · exact .inl ⟨h0, rfl, S.relabel k₁ (fun b hb => k₂ b (by simpa using hb)), k₃ g (by simp) _ hg⟩
    · exact .inr ⟨xs, rfl, S.relabel k₁ (fun b hb => k₂ b (by rw [hOB] at hb; exact hb)), gs, k₃ g (by simp) _ hg, hgo⟩
  item := fun wr i s Q E hi st hQ => by
    obtain ⟨oI, hIX, nm, qn, g1, g2, g3⟩ := hI
    have key : ∀ (xs : List Addr) (gs : GenState), St mg mb X s.heap [] → (∀ b ∈ xs, b ∈ wr ∨ s.heap.get? b = none) → L ∈ wr → (∀ b ∈ wr, b = L ∨ b ∈ xs) → s.gens[g]? = some gs →
        gs.Goes (model prog w) A.in1 (Rp (L :: xs)) (Yp mg mb X (L :: xs) (OB xs) P N fin) (N - i) (.send .none) (s.setGen g .running) → wpAny (model prog w) A (pyNext (.ref I)) Q E s := by
      intro xs gs S hxs hL hw hg hgoes
      refine next_gen (n := N - i) hh S.w.nolimit hroom ⟨oI, nm, qn, S.keep _ _ hIX, g1, g2, g3⟩ hg hgoes (fun v s₁ gs' hb hY => ?_) (fun s₁ hp => absurd hp.1 (by omega))
      obtain ⟨m, hm⟩ : ∃ m, N - i = m + 1 := ⟨N - i - 1, by omega⟩
      rw [hm] at hY
      obtain ⟨hP, ⟨hk, hos, hgens⟩, S₁, hκ⟩ := hY
      have e1 : m + 1 - 1 = m := rfl
      rw [e1] at hP S₁ hκ
      have e2 : N - (m + 1) = i := by omega
      have e3 : N - m = i + 1 := by omega
      rw [e2] at hP
      rw [e3] at S₁ hκ
      refine hQ v _ (L :: xs) (fun b hb => ?_) hP (.inr ⟨xs, rfl, S₁, gs', gens_here hgens hg, fun hf s' S' => ?_⟩) ⟨fun b o hb e => ?_, hos, fun g' x hg' e => gens_set hgens (by simpa using hg') e, gens_bare hgens hb⟩
      · rcases List.mem_cons.mp hb with rfl | hb
        · exact .inl hL
        · exact hxs b hb
      · have e4 : N - (i + 1) = m := by omega
        rw [e4]
        exact hκ (hf.imp id fun h => by omega) s' S'
      · refine hk b o (fun hm => ?_) e
        rcases List.mem_cons.mp hm with rfl | hm
        · exact hb hL
        · rcases hxs b hm with h | h
          · exact hb h
          · rw [h] at e; cases e
    rcases st with ⟨rfl, rfl, S, hg⟩ | ⟨xs, rfl, S, gs, hg, hgo⟩
    · obtain ⟨xs, hxs, hseg⟩ := first (s.setGen g .running) S
      refine key xs _ (S.sub (List.nil_sublist _)) (fun b hb => .inr (hxs b hb)) (by simp) (fun b hb => .inl (by simpa using hb)) hg ⟨rfl, hseg⟩
    · exact key xs gs (S.sub (List.nil_sublist _)) (fun b hb => .inl (List.mem_cons_of_mem _ hb)) (by simp) (fun b hb => List.mem_cons.mp hb) hg (hgo (.inr hi) (s.setGen g .running) S)
  go := fun wr i v s Q E st hQ => by
    obtain ⟨oI, hIX, nm, qn, g1, g2, g3⟩ := hI
    have hk : s.heap.get? I = some oI := by
      rcases st with ⟨_, _, S, _⟩ | ⟨xs, _, S, _⟩
      · exact S.keep _ _ hIX
      · exact S.keep _ _ hIX
    exact hgo v s Q E ⟨oI, nm, qn, hk, g1, g2, g3⟩ (hQ s st ⟨fun _ _ _ e => e, rfl, fun _ _ _ e => e, id⟩)
  self := fun wr i s Q E st hQ => by
    obtain ⟨oI, hIX, nm, qn, g1, g2, g3⟩ := hI
    have hk : s.heap.get? I = some oI := by
      rcases st with ⟨_, _, S, _⟩ | ⟨xs, _, S, _⟩
      · exact S.keep _ _ hIX
      · exact S.keep _ _ hIX
    exact wpAny_pyIter_gen ⟨oI, nm, qn, hk, g1, g2, g3⟩ hQ

/-- a generator that ends -/
theorem gen_done {I : Addr} {g : Nat} {c : Code} {L : Addr} {F₀ : Th} {OB : List Addr → Nat → Ob} {P : Nat → Value → Rl → Prop} {N : Nat} (hh : A.handled = none) (hroom : A.depth < recursionLimit)
    (hI : ∃ o, X I o ∧ genP g o)
    (first : ∀ s : Shared, St mg mb X s.heap [(L, F₀)] → ∃ xs, (∀ b ∈ xs, s.heap.get? b = none) ∧ Seg (model prog w) A.in1 (Rp (L :: xs)) (Yp mg mb X (L :: xs) (OB xs) P N True) N s c ((model prog w).den c) [] s)
    {wr : List Addr} {E : Value → Shared → Prop} {Q : Option Value → Shared → Prop} (st : GenStt prog w A mg mb X g c L F₀ OB P N True wr N s) (hQ : ∀ s', Mv wr [g] s s' → Q none s') : wpAny (model prog w) A (pyNext (.ref I)) Q E s := by
  obtain ⟨oI, hIX, nm, qn, g1, g2, g3⟩ := hI
  have key : ∀ (xs : List Addr) (gs : GenState) (n : Nat), n = 0 → St mg mb X s.heap [] → (∀ b ∈ xs, b ∈ wr ∨ s.heap.get? b = none) → L ∈ wr → s.gens[g]? = some gs →
      gs.Goes (model prog w) A.in1 (Rp (L :: xs)) (Yp mg mb X (L :: xs) (OB xs) P N True) n (.send .none) (s.setGen g .running) → wpAny (model prog w) A (pyNext (.ref I)) Q E s := by
    rintro xs gs n rfl S hxs hL hg hgoes
    refine next_gen (n := 0) hh S.w.nolimit hroom ⟨oI, nm, qn, S.keep _ _ hIX, g1, g2, g3⟩ hg hgoes (fun v s₁ gs' hb hY => ?_) (fun s₁ hp h' hk' => ?_)
    · exact (hY.2.2.2 (.inl trivial) s₁ hY.2.2.1).elim
    · obtain ⟨_, hk, hos, hgens⟩ := hp
      refine hQ _ ⟨fun b o hb e => hk' b o (hk b o (fun hm => ?_) e), hos, fun g' x hg' e => gens_set hgens (by simpa using hg') e, gens_bare hgens rfl⟩
      rcases List.mem_cons.mp hm with rfl | hm
      · exact hb hL
      · rcases hxs b hm with h | h
        · exact hb h
        · rw [h] at e; cases e
  rcases st with ⟨h0, rfl, S, hg⟩ | ⟨xs, rfl, S, gs, hg, hgo⟩
  · obtain ⟨xs, hxs, hseg⟩ := first (s.setGen g .running) S
    exact key xs _ N h0 (S.sub (List.nil_sublist _)) (fun b hb => .inr (hxs b hb)) (by simp) hg ⟨rfl, hseg⟩
  · exact key xs gs (N - N) (Nat.sub_self N) (S.sub (List.nil_sublist _)) (fun b hb => .inl (List.mem_cons_of_mem _ hb)) (by simp) hg (hgo (.inl trivial) (s.setGen g .running) S)
end
end Mine
end
/-! ## F11 -/
section
set_option maxRecDepth 100000
set_option maxHeartbeats 4000000
open PySem PySem.Calls PySem.W PyProof.Rows
namespace Mine
theorem over_room {A : Around} {d u m m' : Nat} {c : Code} {fs : List Frame} (R : Room A (d + m) (u + m')) (hm : (marksOver fs (none, none)).1 = none) (hd : frameCount (fs.map Frame.where_) + c.weight ≤ m) (hu : unitsOf (fs.map Frame.where_) + c.cUnits ≤ m') : Room (A.over c fs) d u := by
  refine ⟨?_, ?_, ?_⟩
  · show (marksOver fs (A.handled, A.handled)).1 = none
    rw [R.hh]; exact hm
  · have := R.hd
    show A.depth + frameCount (fs.map Frame.where_) + c.weight + d < _
    omega
  · have := R.hu
    show A.units + unitsOf (fs.map Frame.where_) + c.cUnits + u < _
    omega

def enP (it : Addr) (i : Int) : Th := fun o => ∃ old : Value, o = { cls := .type "enumerate", dict := none, data := .fields #[.none, .bool false, .ref it, rawInt i, .none, old], slots := #[] }
def siP (x : Str) (t : Tok) (i : Nat) : Th := fun o => o.cls = .type (strIterType x) ∧ o.data = .fields #[.str x t, .int i 0]
theorem At.isEnum {h : Heap} {e it : Addr} {i : Int} (x : At h e (enP it i)) : ∃ old, IsEnum h e it i old := by
  obtain ⟨o, ho, old, rfl⟩ := x; exact ⟨old, ho⟩
theorem At.of_enum {h : Heap} {e it : Addr} {i : Int} {old : Value} (x : IsEnum h e it i old) : At h e (enP it i) := ⟨_, x, old, rfl⟩
theorem At.isStrIter {h : Heap} {it : Addr} {x : Str} {t : Tok} {i : Nat} (y : At h it (siP x t i)) : h.IsStrIter it (strIterType x) x t i := y

section
variable {prog : Program} {w : World} {A : Around} {s : Shared} {mg mb : Str → Option Value} {B : Rl} {ob : Ob}
theorem St.many {h h' : Heap} (S : St mg mb B h ob) (wr : List Addr) (hw : ∀ b ∈ wr, b ∈ ob.map (·.1)) (k : ∀ b o, b ∉ wr → h.get? b = some o → h'.get? b = some o) (ob' : Ob) (hf : ob'.map (·.1) = ob.map (·.1)) (hp : ∀ p ∈ ob', At h' p.1 p.2) : St mg mb B h' ob' := by
  have off : ∀ b ∈ ob.map (·.1), ∀ o, ¬ B b o := fun b hb o e => by
    obtain ⟨p, hp, rfl⟩ := List.mem_map.mp hb
    exact (S.own p hp).2 o e
  refine ⟨S.wd, fun b o e => k b o (fun hm => off b (hw b hm) o e) (S.keep b o e), fun p hq => ⟨hp p hq, off _ ?_⟩, by rw [hf]; exact S.dis⟩
  rw [← hf]; exact List.mem_map_of_mem hq

theorem draws_str (hh : A.handled = none) (it : Addr) (x : Str) (t : Tok) : Draws prog w A it [it] x.cps.size (fun i v => ∃ c u, x.cps[i]? = some c ∧ v = .str ⟨#[c]⟩ u) (fun i h => h.IsStrIter it (strIterType x) x t i) := by
  unfold strIterType
  split
  · exact Draws.strAscii hh it x t
  · exact Draws.strWide hh it x t

/-- a turn of enumerate over a text -/
theorem enumStr_next {x : Str} {t : Tok} {i c : Nat} {L e it : Addr} {F : Th} {elts : List PySem.Expr} {k : Nat} {pos : Pos} {E : Value → Shared → Prop} {Q : Value → Shared → Prop} {D : Shared → Prop} (hh : A.handled = none) (S : St mg mb B s.heap [(L, F), (e, enP it i), (it, siP x t i)])
    (hc : x.cps[i]? = some c)
    (h : ∀ T u₁ u₂ h' tk, St mg mb B h' [(L, F), (e, enP it ((i + 1 : Nat) : Int)), (it, siP x t (i + 1)), (T, tupP [.int i u₁, .str ⟨#[c]⟩ u₂])] → Q (.ref T) { s with heap := h', toks := tk }) :
    wpAny (model prog w) A (pyNext (.ref e)) (fun r s₁ => match r with
      | none => D s₁
      | some v => wpAny (model prog w) A (letOwnedTupleGo (.Tuple elts k pos) (.ref e) v) (fun _ s₂ => Q v s₂) E s₁) E s := by
  obtain ⟨old, he⟩ := (S.at 1 rfl).isEnum
  have hit := (S.at 2 rfl).isStrIter
  have d := S.dis
  simp only [List.map_cons, List.map_nil, List.nodup_cons, List.mem_cons, List.not_mem_nil, or_false, not_or] at d
  obtain ⟨⟨d1, d2⟩, d3, _⟩ := d
  have hlt : i < x.cps.size := (Array.getElem?_eq_some_iff.mp hc).1
  refine wpAny_pyNext_enum_itemD (draws_str (A := A.in1) hh it x t) he hit hlt d3 (by simpa using d3) fun v h' tk hP hout hit' hT hsz hk => ?_
  obtain ⟨c', u, hc', rfl⟩ := hP
  rw [hc] at hc'; cases hc'
  refine wpAny_letOwnedTupleGo_enum hout fun h'' he'' hs'' => ?_
  have hT0 : s.heap.get? s.heap.objs.size = none := by
    cases q : s.heap.get? s.heap.objs.size with
    | none => rfl
    | some o => exact absurd (Heap.lt_size q) (Nat.lt_irrefl _)
  have hTe : s.heap.objs.size ≠ e := fun q => absurd (Heap.lt_size (show s.heap.get? e = some _ from he)) (by rw [q]; exact Nat.lt_irrefl _)
  have hTi : s.heap.objs.size ≠ it := fun q => by obtain ⟨o, ho, _⟩ := hit; rw [q] at hT0; rw [hT0] at ho; cases ho
  have hk2 : ∀ b o, b ∉ [e, it] → s.heap.get? b = some o → h''.get? b = some o := fun b o hb ho => by
    simp only [List.mem_cons, List.not_mem_nil, or_false, not_or] at hb
    exact (hs''.2 b hb.1).trans (hk b o hb.1 hb.2 ho)
  have S₁ : St mg mb B h'' [(L, F), (e, enP it ((i + 1 : Nat) : Int)), (it, siP x t (i + 1))] := by
    refine S.many [e, it] (by simp) hk2 _ rfl fun p hp => ?_
    simp only [List.mem_cons, List.not_mem_nil, or_false] at hp
    rcases hp with rfl | rfl | rfl
    · exact (S.at 0 rfl).keep fun o => hk2 L o (by simp [d1, d2])
    · exact At.of_enum (by simpa using he'')
    · obtain ⟨o, ho, r⟩ := hit'
      exact ⟨o, (hs''.2 it (Ne.symm d3)).trans ho, r⟩
  refine h s.heap.objs.size tk u h'' (tk + 1) ⟨S₁.wd, S₁.keep, fun p hp => ?_, ?_⟩
  · rcases List.mem_append.mp (show p ∈ [(L, F), (e, enP it ((i + 1 : Nat) : Int)), (it, siP x t (i + 1))] ++ [(s.heap.objs.size, tupP [.int i tk, .str ⟨#[c]⟩ u])] from hp) with hp | hp
    · exact S₁.own p hp
    · cases List.mem_singleton.mp hp
      refine ⟨⟨_, (hs''.2 _ hTe).trans hT, rfl, _, rfl⟩, fun o e => ?_⟩
      have := S.keep _ _ e
      rw [hT0] at this; cases this
  · have hTL : s.heap.objs.size ≠ L := fun q => by obtain ⟨o, ho, _⟩ := S.at 0 rfl; rw [q] at hT0; rw [hT0] at ho; cases ho
    simp [d1, d2, d3, Ne.symm hTL, Ne.symm hTe, Ne.symm hTi]
theorem enumStr_end {x : Str} {t : Tok} {L e it : Addr} {F : Th} {E : Value → Shared → Prop} {Q : Option Value → Shared → Prop} (hh : A.handled = none) (S : St mg mb B s.heap [(L, F), (e, enP it x.cps.size), (it, siP x t x.cps.size)])
    (h : ∀ h', St mg mb B h' [(L, F)] → Q none { s with heap := h' }) : wpAny (model prog w) A (pyNext (.ref e)) Q E s := by
  obtain ⟨old, he⟩ := (S.at 1 rfl).isEnum
  have hit := (S.at 2 rfl).isStrIter
  refine wpAny_pyNext_enum_endD (draws_str (A := A.in1) hh it x t) he hit fun h' hx => h h' ?_
  have S' : St mg mb B s.heap ([(L, F), (e, enP it x.cps.size)] ++ [(it, siP x t x.cps.size)]) := S
  exact (S'.lose hx).sub (by simp)
end
end Mine
end
/-! ## F12 -/
section
set_option maxRecDepth 100000
set_option maxHeartbeats 4000000
open PySem PySem.Calls PySem.W PyProof.Rows
namespace Mine
abbrev eN : List Str := ["addr", "pos", "escape", "ch"]
def escFor : PySem.Expr × List Stmt := match (defAt 4).body with
  | _ :: _ :: .For t _ b _ _ :: _ => (t, b)
  | _ => (.Name "" ⟨0, 0, 0, 0⟩, [])
def off (ls : List Int) (k : Nat) : Nat := (spellAll (ls.take k)).length
def escAt (ls : List Int) (i : Nat) : Bool := match ls[i - 1]? with
  | some x => decide (128 ≤ x)
  | none => false
def escOB (text : Str) (t : Tok) (L : Addr) (xs : List Addr) (c : Nat) (b : Bool) : Ob := match xs with
  | [e, it] => [(L, nsP eN [some (.str text t), none, some (.bool b), none]), (e, enP it (c : Int)), (it, siP text t c)]
  | _ => (L, anyP) :: xs.map fun b => (b, anyP)
def escP (ls : List Int) (i : Nat) (v : Value) (X : Rl) : Prop := ∃ T u₁ u₂ x, v = .ref T ∧ ls[i]? = some x ∧ Tup X T [.int ((off ls (i + 1) : Int) - 1) u₁, .str (textOf [x]) u₂]
theorem off_succ {ls : List Int} {k : Nat} {x : Int} (h : ls[k]? = some x) : off ls (k + 1) = off ls k + (spellN x).length := by
  unfold off
  rw [List.take_add_one, h, spellAll_append]
  simp [spellAll]
theorem at_off {ls : List Int} {k : Nat} {x : Int} (h : ls[k]? = some x) (j : Nat) (hj : j < (spellN x).length) : (spellAll ls)[off ls k + j]? = (spellN x)[j]? := by
  have e : ls = ls.take k ++ x :: ls.drop (k + 1) := by
    obtain ⟨hl, rfl⟩ := List.getElem?_eq_some_iff.mp h
    rw [List.getElem_cons_drop]; simp
  have e2 : spellAll ls = spellAll (ls.take k) ++ (spellN x ++ spellAll (ls.drop (k + 1))) := by
    conv => lhs; rw [e]
    rw [spellAll_append]; simp [spellAll]
  rw [e2]
  unfold off
  rw [List.getElem?_append_right (by omega), Nat.add_sub_cancel_left, List.getElem?_append_left hj]
theorem off_all (ls : List Int) : off ls ls.length = (textOf ls).cps.size := by
  unfold off; rw [List.take_length]; simp [textOf]

theorem St.off {mg mb : Str → Option Value} {B : Rl} {h : Heap} {ob : Ob} (S : St mg mb B h ob) (i : Nat) {a : Addr} {P : Th} (hi : ob[i]? = some (a, P)) : ∀ o, ¬ B a o := (S.own _ (List.mem_of_getElem? hi)).2
theorem escAt_succ {ls : List Int} {k : Nat} {x : Int} (h : ls[k]? = some x) : escAt ls (k + 1) = decide (128 ≤ x) := by
  unfold escAt
  rw [Nat.add_sub_cancel, h]
theorem sub_self (S : List Addr) (h : Heap) : Sub (MxA S h) (Hp h) := fun _ _ e => e.1

section
variable {prog : Program} {w : World} {A : Around} {mg mb : Str → Option Value} {X : Rl}
theorem esc_loop {ls : List Int} {t : Tok} {L it e : Addr} {env : Env} {c₁ : Code} {k₁ : Result → Sem Fin} {p₁ : Pos} {lv₁ : List Value} {hX : Heap} (hls : ∀ x ∈ ls, Leaf x) (V : Ev env L eN [] ["enumerate"]) (hco : env.scope.isCoroutine = false) (SX : St mg mb X hX [])
    (Rm : Room A 3 90) (hc1 : c₁ = .func (defAt 4).body env)
    (hfin : ∀ s₀ s : Shared, Sub X (MxA [L, e, it] s₀.heap) → St mg mb (MxA [L, e, it] s₀.heap) s.heap [(L, nsP eN [some (.str (textOf ls) t), none, some (.bool false), none])] → s.os = s₀.os → s.gens = s₀.gens →
      Seg (model prog w) A (Rp [L, e, it]) (Yp mg mb X [L, e, it] (fun i => escOB (textOf ls) t L [e, it] (off ls i) (escAt ls i)) (escP ls) ls.length True) 0 s₀ c₁ (k₁ (.ok .next)) [] s) :
    ∀ (m k : Nat), k + m = ls.length → ∀ (s₀ s : Shared), Sub X (MxA [L, e, it] s₀.heap) → St mg mb (MxA [L, e, it] s₀.heap) s.heap (escOB (textOf ls) t L [e, it] (off ls k) false) → s.os = s₀.os → s.gens = s₀.gens →
      Seg (model prog w) A (Rp [L, e, it]) (Yp mg mb X [L, e, it] (fun i => escOB (textOf ls) t L [e, it] (off ls i) (escAt ls i)) (escP ls) ls.length True) m s₀
        (.forLoop escFor.1 (.ref e) escFor.2 [] env) ((model prog w).den (.forLoop escFor.1 (.ref e) escFor.2 [] env)) [.ret k₁ none false lv₁ c₁ p₁ []] s := by
  subst hc1
  have Rm' : Room (A.over (.forLoop escFor.1 (.ref e) escFor.2 [] env) [.ret k₁ none false lv₁ (.func (defAt 4).body env) p₁ []]) 2 80 := over_room (m := 1) (m' := 3) (Rm.le (by omega) (by omega)) rfl (Nat.le_refl _) (Nat.le_refl _)
  intro m
  induction m with
  | zero =>
    intro k hk s₀ s hXs S hos hgens
    have ek : off ls k = (textOf ls).cps.size := by rw [← off_all]; congr 1
    rw [ek] at S
    refine seg_forLoop fun E => enumStr_end Rm'.hh S fun h' S' => ?_
    exact hfin s₀ { s with heap := h' } hXs S' hos hgens
  | succ m ih =>
    intro k hk s₀ s hXs S hos hgens
    obtain ⟨x, hx⟩ : ∃ x, ls[k]? = some x := ⟨_, List.getElem?_eq_getElem (show k < ls.length by omega)⟩
    have hlf := hls x (List.mem_of_getElem? hx)
    have hNk : ls.length - (m + 1) = k := by omega
    have hNk1 : ls.length - m = k + 1 := by omega
    -- a yield, and what comes after it
    have yld : ∀ (F : Th) (T : Addr) (u₁ u₂ : Tok) (tail : Ob) (s₁ : Shared) (kap : Resume → Shared → Prop), St mg mb (MxA [L, e, it] s₀.heap) s₁.heap ([(L, F), (e, enP it ((off ls (k + 1) : Nat) : Int)), (it, siP (textOf ls) t (off ls (k + 1))), (T, tupP [.int ((off ls (k + 1) : Int) - 1) u₁, .str (textOf [x]) u₂])] ++ tail) →
        (∀ o, F o → nsP eN [some (.str (textOf ls) t), none, some (.bool (escAt ls (k + 1))), none] o) → s₁.os = s₀.os → s₁.gens = s₀.gens →
        (∀ s'', St mg mb X s''.heap (escOB (textOf ls) t L [e, it] (off ls (k + 1)) (escAt ls (k + 1))) → kap (.send .none) s'') →
        Yp mg mb X [L, e, it] (fun i => escOB (textOf ls) t L [e, it] (off ls i) (escAt ls i)) (escP ls) ls.length True m s₀ (.ref T) s₁ kap := by
      intro F T u₁ u₂ tail s₁ kap S₁ hF hos₁ hg₁ hkap
      have d := S₁.dis
      simp only [List.map_cons, List.map_nil, List.cons_append, List.nil_append, List.nodup_cons, List.mem_cons, not_or] at d
      obtain ⟨⟨d1, d2, d3, _⟩, ⟨d4, d5, _⟩, ⟨d6, _⟩, _⟩ := d
      have hTw : T ∉ [L, e, it] := by simp [Ne.symm d3, Ne.symm d5, Ne.symm d6]
      refine ⟨?_, ⟨fun b o hb ho => S₁.keep b o ⟨ho, hb⟩, hos₁, hg₁⟩, ?_, fun _ s'' hs'' => hkap s'' (by rw [hNk1] at hs''; exact hs'')⟩
      · rw [hNk]
        obtain ⟨o, ho, hp⟩ := S₁.at 3 rfl
        refine ⟨T, u₁, u₂, x, rfl, hx, o, ⟨⟨?_, ho⟩, hTw⟩, hp⟩
        cases q : s₀.heap.get? T with
        | none => rfl
        | some o' => exact absurd ⟨q, hTw⟩ (S₁.off 3 rfl o')
      · rw [hNk1]
        have S₂ : St mg mb (MxA [L, e, it] s₀.heap) s₁.heap [(L, F), (e, enP it ((off ls (k + 1) : Nat) : Int)), (it, siP (textOf ls) t (off ls (k + 1)))] := S₁.sub (by simp)
        exact SX.less (S₂.wk 0 rfl hF) hXs
    have fall : ∀ (s'' : Shared), St mg mb X s''.heap (escOB (textOf ls) t L [e, it] (off ls (k + 1)) false) →
        Seg (model prog w) A (Rp [L, e, it]) (Yp mg mb X [L, e, it] (fun i => escOB (textOf ls) t L [e, it] (off ls i) (escAt ls i)) (escP ls) ls.length True) m s''
        (.forLoop escFor.1 (.ref e) escFor.2 [] env) ((model prog w).den (.forLoop escFor.1 (.ref e) escFor.2 [] env)) [.ret k₁ none false lv₁ (.func (defAt 4).body env) p₁ []] s'' := by
      intro s'' S''
      exact ih (k + 1) (by omega) s'' s'' S''.subMx S''.max rfl rfl
    by_cases h128 : x < 128
    · have hsp : spellN x = [x.toNat] := by simp [spellN, h128]
      have htx : textOf [x] = ⟨#[x.toNat]⟩ := by simp [textOf, spellAll, hsp]
      have hc : (textOf ls).cps[off ls k]? = some x.toNat := by
        have := at_off hx 0 (by simp [hsp])
        rw [hsp] at this
        simpa [textOf] using this
      have ho1 : off ls (k + 1) = off ls k + 1 := by rw [off_succ hx, hsp]; rfl
      have hea : escAt ls (k + 1) = false := by rw [escAt_succ hx]; exact decide_eq_false (by omega)
      refine seg_forLoop fun E => enumStr_next Rm'.hh S hc fun T u₁ u₂ h₁ tk₁ S₁ => ?_
      rw [← ho1] at S₁
      refine asg2 0 1 3 S₁ V Rm'.hh (S₁.at 3 rfl).isTup rfl rfl rfl fun h₂ tk₂ S₂ => ?_
      change St mg mb _ h₂ [(L, nsP eN [some (.str (textOf ls) t), some (.int (off ls k) u₁), some (.bool false), some (.str ⟨#[x.toNat]⟩ u₂)]), (e, _), (it, _), (T, _)] at S₂
      refine seg_execs_cons (seg_if fun E => ?_)
      refine isTrue_plain (ldl 0 2 S₂ V rfl rfl rfl (wpAny_truthy_bool ?_))
      simp only [Bool.false_eq_true, if_false]
      refine seg_execs_cons (seg_if fun E => ?_)
      refine wpAny_isTrue_Compare1 (ldl 0 3 S₂ V rfl rfl rfl (Constant_str (eq_str (wpAny_truthy_bool ?_))))
      have hne : ((⟨#[x.toNat]⟩ : Str) == Str.ofString "\\") = false := by
        have e0 : Str.ofString "\\" = ⟨#[92]⟩ := by decide +kernel
        rw [e0]
        rcases hlf with rfl | rfl | rfl
        · decide
        · decide
        · omega
      rw [hne]
      simp only [Bool.false_eq_true, if_false]
      refine seg_execs_cons (seg_Expr_Yield rfl rfl rfl (Tuple_ (args_cons (ldl 0 1 S₂ V rfl rfl rfl (args_cons (ldl 0 3 S₂ V rfl rfl rfl (args_nil ?_)))))) hco (by unfold interactive; rw [V.kind]; rfl))
      refine newTuple_ S₂ (by rw [sizeLine_eq]; show 2 ≤ 16777216; decide) fun T₂ h₃ S₃ => ?_
      intro kap hkap
      have S₄ : St mg mb (MxA [L, e, it] s₀.heap) h₃ ([(L, nsP eN [some (.str (textOf ls) t), some (.int (off ls k) u₁), some (.bool false), some (.str ⟨#[x.toNat]⟩ u₂)]), (e, enP it ((off ls (k + 1) : Nat) : Int)), (it, siP (textOf ls) t (off ls (k + 1))), (T₂, tupP [.int ((off ls (k + 1) : Int) - 1) u₁, .str (textOf [x]) u₂])] ++ []) := by
        have e5 : ((off ls (k + 1) : Int) - 1) = (off ls k : Int) := by rw [ho1]; omega
        rw [e5, htx]
        exact S₃.sub (by simp)
      refine yld _ T₂ u₁ u₂ [] _ kap S₄ (fun o ho => nsP.weak (by rw [hea]; exact ⟨.inr rfl, .inl rfl, .inr rfl, .inl rfl, trivial⟩) o ho) hos hgens fun s'' S'' => ?_
      rw [hea] at S''
      exact hkap .none s'' (seg_again rfl (fall s'' S''))
    · have hx255 : x = 255 := by
        rcases hlf with rfl | rfl | rfl
        · omega
        · omega
        · rfl
      subst hx255
      have hsp : spellN 255 = [92, 127] := by decide
      have hea : escAt ls (k + 1) = true := by rw [escAt_succ hx]; rfl
      have hc : (textOf ls).cps[off ls k]? = some 92 := by
        have := at_off hx 0 (by simp [hsp])
        rw [hsp] at this
        simpa [textOf] using this
      have hc2 : (textOf ls).cps[off ls k + 1]? = some 127 := by
        have := at_off hx 1 (by simp [hsp])
        rw [hsp] at this
        simpa [textOf] using this
      have ho1 : off ls (k + 1) = off ls k + 1 + 1 := by rw [off_succ hx, hsp]; rfl
      refine seg_forLoop fun E => enumStr_next Rm'.hh S hc fun T u₁ u₂ h₁ tk₁ S₁ => ?_
      refine asg2 0 1 3 S₁ V Rm'.hh (S₁.at 3 rfl).isTup rfl rfl rfl fun h₂ tk₂ S₂ => ?_
      change St mg mb _ h₂ [(L, nsP eN [some (.str (textOf ls) t), some (.int (off ls k) u₁), some (.bool false), some (.str ⟨#[92]⟩ u₂)]), (e, _), (it, _), (T, _)] at S₂
      refine seg_execs_cons (seg_if fun E => ?_)
      refine isTrue_plain (ldl 0 2 S₂ V rfl rfl rfl (wpAny_truthy_bool ?_))
      simp only [Bool.false_eq_true, if_false]
      refine seg_execs_cons (seg_if fun E => ?_)
      refine wpAny_isTrue_Compare1 (ldl 0 3 S₂ V rfl rfl rfl (Constant_str (eq_str (wpAny_truthy_bool ?_))))
      have heq : ((⟨#[92]⟩ : Str) == Str.ofString "\\") = true := by decide +kernel
      rw [heq]
      simp only [if_true]
      refine seg_execs_cons (seg_w fun E => wpAny_Assign_Name (Constant_bool (stl 0 2 S₂ V rfl rfl fun h₃ S₃ => ?_)))
      refine seg_again rfl (seg_forLoop fun E => ?_)
      have S₄ : St mg mb (MxA [L, e, it] s₀.heap) h₃ [(L, nsP eN [some (.str (textOf ls) t), some (.int (off ls k) u₁), some (.bool true), some (.str ⟨#[92]⟩ u₂)]), (e, enP it ((off ls k + 1 : Nat) : Int)), (it, siP (textOf ls) t (off ls k + 1))] := S₃.sub (by simp)
      refine enumStr_next Rm'.hh S₄ hc2 fun T' u₃ u₄ h₅ tk₅ S₅ => ?_
      rw [← ho1] at S₅
      refine asg2 0 1 3 S₅ V Rm'.hh (S₅.at 3 rfl).isTup rfl rfl rfl fun h₆ tk₆ S₆ => ?_
      change St mg mb _ h₆ [(L, nsP eN [some (.str (textOf ls) t), some (.int ((off ls k + 1 : Nat) : Int) u₃), some (.bool true), some (.str ⟨#[127]⟩ u₄)]), (e, _), (it, _), (T', _)] at S₆
      refine seg_execs_cons (seg_if fun E => ?_)
      refine isTrue_plain (ldl 0 2 S₆ V rfl rfl rfl (wpAny_truthy_bool ?_))
      simp only [if_true]
      refine seg_execs_cons (seg_Expr_Yield rfl rfl rfl (Tuple_ (args_cons (ldl 0 1 S₆ V rfl rfl rfl (args_cons (wpAny_BinOp (Constant_str (ldl 0 3 S₆ V rfl rfl rfl (add_str (fun t' tk' => args_nil ?_) (by rw [sizeLine_eq]; show 1 + 1 ≤ 16777216; decide))))))))) hco (by unfold interactive; rw [V.kind]; rfl))
      refine newTuple_ S₆ (by rw [sizeLine_eq]; show 2 ≤ 16777216; decide) fun T₂ h₇ S₇ => ?_
      intro kap hkap
      have S₈ : St mg mb (MxA [L, e, it] s₀.heap) h₇ ([(L, nsP eN [some (.str (textOf ls) t), some (.int ((off ls k + 1 : Nat) : Int) u₃), some (.bool true), some (.str ⟨#[127]⟩ u₄)]), (e, enP it ((off ls (k + 1) : Nat) : Int)), (it, siP (textOf ls) t (off ls (k + 1))), (T₂, tupP [.int ((off ls (k + 1) : Int) - 1) u₃, .str (textOf [255]) t'])] ++ []) := by
        have e5 : ((off ls (k + 1) : Int) - 1) = ((off ls k + 1 : Nat) : Int) := by rw [ho1]; omega
        have e6 : textOf [255] = Str.ofString "\\" ++ (⟨#[127]⟩ : Str) := by decide +kernel
        rw [e5, e6]
        exact S₇.sub (by simp)
      refine yld _ T₂ u₃ t' [] _ kap S₈ (fun o ho => nsP.weak (by rw [hea]; exact ⟨.inr rfl, .inl rfl, .inr rfl, .inl rfl, trivial⟩) o ho) hos hgens fun s'' S'' => ?_
      rw [hea] at S''
      refine hkap .none s'' ?_
      refine seg_execs_cons (seg_w fun E => wpAny_Assign_Name (Constant_bool (stl 0 2 S''.max V rfl rfl fun h₉ S₉ => ?_)))
      exact seg_again rfl (ih (k + 1) (by omega) s'' _ S''.subMx S₉ rfl rfl)
end
end Mine
end
/-! ## F13 -/
section
set_option maxRecDepth 100000
set_option maxHeartbeats 4000000
open PySem PySem.Calls PySem.W PyProof.Rows
namespace Mine
section
variable {prog : Program} {w : World} {A : Around} {E : Value → Shared → Prop} {s : Shared} {mg mb : Str → Option Value} {B X : Rl} {ob : Ob} {env : Env} {L : Addr} {names : List Str} {cells : List (Str × Addr)} {globs : List Str}
theorem stlz (j i : Nat) {x : Str} {lv : List (Option Value)} {v : Value} {Q : Unit → Shared → Prop} (S : St mg mb B s.heap ob) (V : Ev env L names cells globs) (hj : ob[j]? = some (L, nsP names lv)) (hi : names[i]? = some x)
    (h : ∀ h', St mg mb B h' (ob.set j (L, nsP names (lv.set i (some v)))) → h'.objs.size = s.heap.objs.size → Q () { s with heap := h', toks := s.toks + 1 }) : wpAny (model prog w) A (storeName env x v) Q E s := by
  obtain ⟨m, hm, hl⟩ := (S.at j hj).ns
  rw [← V.loc] at hm
  refine wpAny_storeName_local (V.kl x (List.mem_of_getElem? hi)) hm (fun h' hn hs => h h' ?_ hs.1) (by rw [V.kind]; rfl)
  rw [V.loc] at hn hs
  exact S.same j hj hs (At.of_ns hn (hl.set V.nd hi v))
theorem no_size {h : Heap} {b : Addr} (hb : h.objs.size ≤ b) : h.get? b = none := by
  cases q : h.get? b with
  | none => rfl
  | some o => exact absurd (Heap.lt_size q) (Nat.not_lt.mpr hb)
theorem St.maxA {h : Heap} (S : St mg mb B h ob) (wr : List Addr) (h1 : ∀ b ∈ ob.map (·.1), b ∈ wr) (h2 : ∀ b ∈ wr, b ∈ ob.map (·.1) ∨ h.get? b = none) : St mg mb (MxA wr h) h ob ∧ Sub B (MxA wr h) := by
  have k : Sub B (MxA wr h) := fun b o e => ⟨S.keep b o e, fun hm => by
    rcases h2 b hm with h | h
    · obtain ⟨p, hp, rfl⟩ := List.mem_map.mp h; exact (S.own p hp).2 o e
    · have := S.keep b o e; rw [h] at this; cases this⟩
  exact ⟨⟨let ⟨h₁, W, q⟩ := S.wd; ⟨h₁, W, fun b o e => k b o (q b o e)⟩, fun _ _ e => e.1, fun p hp => ⟨(S.own p hp).1, fun o e => e.2 (h1 _ (List.mem_map_of_mem hp))⟩, S.dis⟩, k⟩

abbrev escF0 (text : Str) (t : Tok) : Th := nsP eN [some (.str text t), none, none, none]
theorem esc_first {ls : List Int} {t : Tok} (hls : ∀ x ∈ ls, Leaf x) (V : Ev env L eN [] ["enumerate"]) (hco : env.scope.isCoroutine = false) (Rm : Room A 4 95)
    (S : St mg mb X s.heap [(L, escF0 (textOf ls) t)]) :
    ∃ xs, (∀ b ∈ xs, s.heap.get? b = none) ∧ Seg (model prog w) A.in1 (Rp (L :: xs)) (Yp mg mb X (L :: xs) (fun i => escOB (textOf ls) t L xs (off ls i) (escAt ls i)) (escP ls) ls.length True) ls.length s (.func (defAt 4).body env) ((model prog w).den (.func (defAt 4).body env)) [] s := by
  have fr : ∀ b ∈ [s.heap.objs.size + 1, s.heap.objs.size], s.heap.get? b = none := fun b hb => no_size (by simp at hb; omega)
  refine ⟨[s.heap.objs.size + 1, s.heap.objs.size], fr, ?_⟩
  have Rm0 : Room (A.in1.over (.func (defAt 4).body env) []) 2 80 := over_room (A := A.in1) (m := 1) (m' := 3) ((Rm.le (Nat.le_refl 4) (show 93 + 1 ≤ 95 by omega)).in1.le (by omega) (by omega)) rfl (Nat.le_refl _) (Nat.le_refl _)
  obtain ⟨S₀, hXs⟩ := S.maxA [L, s.heap.objs.size + 1, s.heap.objs.size] (by simp) (fun b hb => by
    rcases List.mem_cons.mp hb with rfl | hb
    · exact .inl (by simp)
    · exact .inr (fr b hb))
  have hLs : L < s.heap.objs.size := by obtain ⟨o, ho, _⟩ := S.at 0 rfl; exact Heap.lt_size ho
  generalize hn : s.heap.objs.size = n at *
  refine seg_func ?_
  refine seg_execs_cons (seg_w fun E => wpAny_Assign_Name (wpAny_Constant_int (stlz 0 1 S₀ V rfl rfl fun h₁ S₁ z₁ => ?_)))
  refine seg_execs_cons (seg_w fun E => wpAny_Assign_Name (Constant_bool (stlz 0 2 S₁ V rfl rfl fun h₂ S₂ z₂ => ?_)))
  change St mg mb _ h₂ [(L, nsP eN [some (.str (textOf ls) t), some (.int 0 _), some (.bool false), none])] at S₂
  have hz : h₂.objs.size = n := z₂.trans (z₁.trans hn)
  refine seg_execs_cons (seg_for fun E => ?_)
  refine tcall1 (id := "enumerate") S₂ V (by decide) (by decide) (by rfl) (ldl 0 0 S₂ V rfl rfl rfl ?_)
  refine call_enumerate_str fun h₃ hE hI hs₃ hk => ?_
  change IsEnum h₃ (h₂.objs.size + 1) h₂.objs.size 0 .none at hE
  change h₃.IsStrIter h₂.objs.size _ _ _ 0 at hI
  change ∀ b o, h₂.get? b = some o → h₃.get? b = some o at hk
  show wpAny _ _ (pyIter (.ref (h₂.objs.size + 1))) _ _ _
  rw [hz] at hE hI ⊢
  refine wpAny_pyIter_enum hE fun k hkk p => ?_
  have S₃ : St mg mb (MxA [L, n + 1, n] s.heap) h₃ (escOB (textOf ls) t L [n + 1, n] (off ls 0) false) := by
    refine ⟨S₂.wd, fun b o e => hk b o (S₂.keep b o e), fun p hp => ?_, ?_⟩
    · have hp' : p ∈ [(L, nsP eN [some (.str (textOf ls) t), none, some (.bool false), none]), (n + 1, enP n (0 : Int)), (n, siP (textOf ls) t 0)] := hp
      simp only [List.mem_cons, List.not_mem_nil, or_false] at hp'
      rcases hp' with rfl | rfl | rfl
      · exact ⟨((S₂.at 0 rfl).keep fun o => hk L o).weak (nsP.weak ⟨.inr rfl, .inl rfl, .inr rfl, .inl rfl, trivial⟩), fun o e => e.2 (by simp)⟩
      · exact ⟨At.of_enum hE, fun o e => e.2 (by simp)⟩
      · exact ⟨hI, fun o e => e.2 (by simp)⟩
    · show ([L, n + 1, n] : List Addr).Nodup
      have a1 : L ≠ n + 1 := Nat.ne_of_lt (Nat.lt_succ_of_lt hLs)
      have a2 : L ≠ n := Nat.ne_of_lt hLs
      have a3 : (n + 1 : Nat) ≠ n := Nat.succ_ne_self n
      simp [a1, a2, a3]
  refine esc_loop (A := A.in1) hls V hco (S.sub (List.nil_sublist _)) ((Rm.le (Nat.le_refl 4) (show 93 + 1 ≤ 95 by omega)).in1.le (by omega) (by omega)) rfl ?_ ls.length 0 (by omega) s _ hXs S₃ rfl rfl
  intro s₀ s' hXs' S' hos hgens
  rw [hkk .next]
  have Rm1 : Room (A.in1.over (.func (defAt 4).body env) []) 2 80 := Rm0
  refine seg_execs_cons (seg_if fun E => isTrue_plain (ldl 0 2 S' V rfl rfl rfl (wpAny_truthy_bool ?_)))
  simp only [Bool.false_eq_true, if_false]
  refine seg_end (.ok (.ret .none)) ⟨rfl, rfl, fun b o hb ho => S'.keep b o ⟨ho, hb⟩, hos, hgens⟩

/-- the call makes the generator -/
theorem esc_call {text : Str} {t : Tok} {a : Addr} {R : Result → Shared → Prop} (W : Wd mg mb s.heap) (ha : mg (defAt 4).name = some (.ref a)) (Rm : Room A 5 100)
    (h : ∀ (s' : Shared) (L I : Addr) (env : Env), (∀ b o, s.heap.get? b = some o → s'.heap.get? b = some o) → s'.os = s.os → s'.gens = s.gens.push (.fresh (.func (defAt 4).body env)) → s.heap.get? L = none → s.heap.get? I = none → L ≠ I →
      At s'.heap L (escF0 text t) → At s'.heap I (genP s.gens.size) → Ev env L eN [] ["enumerate"] → env.scope.isCoroutine = false → R (.ok (.ret (.ref I))) s') :
    codeAny (model prog w) A (.call (.ref a) ⟨[.str text t], []⟩) R s := by
  obtain ⟨a', o, pm, code, doc, h1, h2, h3, h4⟩ := W.fn 4 (by decide)
  rw [ha] at h1
  cases h1
  refine codeAny_call_generator (by have := Rm.hd; omega) h2 h3 rfl rfl rfl h4 ?_
  refine wpAny_of_eq (a := [(("addr" : Str), Value.str text t)]) rfl ?_
  refine wpAny_newFunctionEnv (show ∀ x ∈ (defAt 4).scope.names, x.2 ≠ .cell by decide +kernel) (by intro x hx; simp at hx; subst hx; rfl) fun h' hn hs => ?_
  have hk : ∀ b o, s.heap.get? b = some o → h'.get? b = some o := fun b o e => hs.extBut b o (Nat.ne_of_lt (Heap.lt_size e)) (Heap.get?_push_of_some _ e)
  have hz : h'.objs.size = s.heap.objs.size + 1 := by rw [hs.1, Heap.size_push]
  refine ⟨W.nolimit.keeps hk, ?_⟩
  have hV : Ev (newEnv (docDef (defAt 4).name (defAt 4).params (defAt 4).body (defAt 4).scope pm code doc).scope s.heap.objs.size (docDef (defAt 4).name (defAt 4).params (defAt 4).body (defAt 4).scope pm code doc).globals [] ((docDef (defAt 4).name (defAt 4).params (defAt 4).body (defAt 4).scope pm code doc).qualname ++ ".<locals>.") (some a) (docDef (defAt 4).name (defAt 4).params (defAt 4).body (defAt 4).scope pm code doc).code none (docDef (defAt 4).name (defAt 4).params (defAt 4).body (defAt 4).scope pm code doc).builtins) s.heap.objs.size eN [] ["enumerate"] :=
    ev_of (nm := (defAt 4).name) (sc := (defAt 4).scope) (L := s.heap.objs.size) (a := a) (cd := code) (by decide +kernel)
  refine h _ s.heap.objs.size h'.objs.size _ (fun b o e => Heap.get?_push_of_some _ (hk b o e)) rfl rfl (no_size (Nat.le_refl _)) (no_size (by rw [hz]; exact Nat.le_succ _)) (by rw [hz]; exact (Nat.succ_ne_self _).symm) ?_ ⟨_, Heap.get?_push_size _ rfl, _, _, rfl, rfl, rfl⟩ hV rfl
  obtain ⟨o', ho', hp'⟩ : At h' s.heap.objs.size (escF0 text t) := At.of_ns hn fun i x v hi hv => by
    rcases i with _ | i
    · simp at hi hv; subst hi; subst hv; rfl
    · rcases i with _ | _ | _ | i <;> simp at hv
  exact ⟨o', Heap.get?_push_of_some _ ho', hp'⟩
end
end Mine
end
/-! ## F14 -/
section
set_option maxRecDepth 100000
set_option maxHeartbeats 4000000
open PySem PySem.Calls PySem.W PyProof.Rows
namespace Mine
section
variable {prog : Program} {w : World} {A : Around} {E : Value → Shared → Prop} {s : Shared} {mg mb : Str → Option Value} {B : Rl} {ob : Ob}
theorem letGo_gen {target : PySem.Expr} {I : Addr} {g : Nat} {v : Value} {Q : Unit → Shared → Prop} (hg : s.heap.IsGen I g) (h : Q () s) : wpAny (model prog w) A (letOwnedTupleGo target (.ref I) v) Q E s := by
  obtain ⟨⟨c, d, dt, sl⟩, nm, qn, ho, hc, hd, hs⟩ := hg
  cases hc
  cases hd
  unfold letOwnedTupleGo
  cases target <;> first
    | exact wpAny_pure h
    | (cases v <;> first
        | exact wpAny_pure h
        | (refine wpAny_bind (wpAny_load ho ?_)
           exact wpAny_pure h))

/-- the block of a comprehension over an iterator that grows -/
theorem comp_blockG {elt target iter : PySem.Expr} {scope : Scope} {pos : Pos} {env : Env} {L : Addr} {names : List Str} {cells cells' : List (Str × Addr)} {globs nm gl : List Str} {I : Addr} {X₀ : Rl} {wr : List Addr} {gs : List Nat} {n : Nat} {P : Nat → Value → Rl → Prop} {Stt : List Addr → Nat → Shared → Prop} {Mid : List Addr → Nat → Value → Shared → Prop}
    {K : Value → Addr → Result → Shared → Prop} (V : Ev env L names cells globs) (hs : ∀ p ∈ cells', p ∈ cells) (ok : compOk scope nm (cells'.map (·.1)) gl = true)
    (W : WkG prog w A I X₀ gs n target P Stt Mid) (s₀ : Shared) (hX : Sub X₀ B) (hsz : n ≤ 1000000) (S : St mg mb B s.heap ob) (hwr : ∀ b ∈ wr, (∀ o, ¬ B b o) ∧ b ∉ ob.map (·.1)) (hsd : Side s₀ s) (hgs : ∀ g ∈ gs, s₀.gens[g]? = none)
    (hst : Stt wr 0 s) (Inv : Nat → List Value → Rl → Prop) (h0 : Inv 0 [] B) (hmono : ∀ i ys X Y, Sub X Y → Inv i ys X → Inv i ys Y)
    (turn : ∀ wr i v ys B' s₁ E D C cenv, Ev cenv C nm cells' gl → i < n → Inv i ys B' → Sub B B' → St mg mb B' s₁.heap (ob ++ [(D, listP ys), (C, nsP nm (lvN nm))] ++ keepers wr s₁.heap) → P i v B' → Side s₀ s₁ →
      wpAny (model prog w) A (assign target cenv v) (fun _ s₂ => wpAny (model prog w) A (eval elt cenv) (fun x s₄ => TurnEnd mg mb ob D C nm (keepers wr s₁.heap) (Inv (i + 1) (ys ++ [x])) B' ys s₁ s₄) E s₂) E s₁)
    (next_end : ∀ (A' : Around) (wr : List Addr) (s : Shared) (Q : Option Value → Shared → Prop) (E : Value → Shared → Prop), A' = A → Stt wr n s → (∀ s', Mv wr gs s s' → Q none s') → wpAny (model prog w) A' (pyNext (.ref I)) Q E s)
    (done : ∀ D C ys B' s', Inv n ys B' → Sub B B' → St mg mb B' s'.heap (ob ++ [(D, listP ys), (C, nsP nm (lvN nm))]) → Side s₀ s' → K (.ref D) C (.ok .next) s') :
    wpAny (model prog w) A (newList []) (fun acc s₃ => wpAny (model prog w) A (newFunctionEnv scope env.globals (closG env scope.names []) [] env.qual none .none (some env)) (fun cenv s₄ =>
      codeAny (model prog w) A (.compStart (.ListComp elt [⟨target, iter, [], 0⟩] scope pos) 0 (.ref I) acc { cenv with scope := relabel scope env }) (K acc cenv.locals) s₄) E s₃) E s := by
  have hE := (ev_comp V hs ok).2
  have hkind : scope.kind = .function := (hE 0).kind
  have hcell : ∀ x ∈ scope.names, x.2 ≠ .cell := by
    simp only [compOk, Bool.and_eq_true, Bool.or_eq_true, decide_eq_true_eq, List.all_eq_true] at ok
    exact fun x hx => (ok.2 x hx).1.1
  refine wpAny_newList ?_ (by rw [sizeLine_eq]; decide)
  refine wpAny_newFunctionEnv hcell (by intro y hy; simp at hy) (fun h₁ hns₁ hsb₁ => ?_) hkind
  have S₁ := S.push (o := { cls := .type "list", data := .seq ([] : List Value).toArray }) (listP []) ⟨rfl, rfl, 0, rfl⟩
  generalize hH2 : s.heap.push { cls := .type "list", data := .seq ([] : List Value).toArray } = H2 at hns₁ hsb₁ S₁ ⊢
  have hC : H2.objs.size = s.heap.objs.size + 1 := by rw [← hH2, Heap.size_push]
  have keep₂ : ∀ b o, H2.get? b = some o → h₁.get? b = some o := fun b o e => hsb₁.extBut b o (Nat.ne_of_lt (Heap.lt_size e)) (Heap.get?_push_of_some _ e)
  have keep₁ : ∀ b o, s.heap.get? b = some o → h₁.get? b = some o := fun b o e => keep₂ b o (by rw [← hH2]; exact Heap.get?_push_of_some _ e)
  have S₂ : St mg mb B h₁ (ob ++ [(s.heap.objs.size, listP []), (H2.objs.size, nsP nm (lvN nm))]) := by
    have := S₁.add (a := H2.objs.size) (P := nsP nm (lvN nm)) keep₂ (At.of_ns hns₁ fun i x v _ e => by
      simp only [lvN, List.getElem?_replicate] at e
      split at e <;> simp at e) (no_size (Nat.le_refl _))
    simpa [List.append_assoc] using this
  have hst₁ : ∀ tk, Stt wr 0 { s with heap := h₁, toks := tk } := fun tk => W.frame _ _ _ _ hst (fun b o e => keep₁ b o (S.keep b o (hX b o e))) (fun b _ o e => keep₁ b o e) fun _ _ _ e => e
  have hlow : ∀ b ∈ wr, b < s.heap.objs.size := fun b hb => let ⟨o, ho⟩ := W.here _ _ _ hst b hb; Heap.lt_size ho
  have loop : codeAny (model prog w) A (.compLoop (.ListComp elt [⟨target, iter, [], 0⟩] scope pos) 0 (.ref I) (.ref s.heap.objs.size) (compEnvC scope (closG env scope.names []) H2.objs.size env))
      (K (.ref s.heap.objs.size) H2.objs.size) { s with heap := h₁, toks := s.toks + ([] : List (Str × Value)).length } := by
    have V' := hE H2.objs.size
    generalize compEnvC scope (closG env scope.names []) H2.objs.size env = cenv at V'
    generalize s.heap.objs.size = D at S₂ hlow hC ⊢
    generalize H2.objs.size = C at S₂ V' hC ⊢
    have hne : ∀ b ∈ wr, b ∉ (ob ++ [(D, listP []), (C, nsP nm (lvN nm))]).map (·.1) := fun b hb hm => by
      rw [List.map_append] at hm
      rcases List.mem_append.mp hm with hm | hm
      · exact (hwr b hb).2 hm
      · have := hlow b hb
        simp only [List.map_cons, List.map_nil, List.mem_cons, List.not_mem_nil, or_false] at hm
        rcases hm with rfl | rfl
        · exact Nat.lt_irrefl _ this
        · rw [hC] at this; exact absurd this (Nat.not_lt.mpr (Nat.le_succ _))
    refine compLoop_any (LoopG mg mb n (fun i ob' X => ∃ ys, ob' = ob ++ [(D, listP ys), (C, nsP nm (lvN nm))] ∧ ys.length ≤ i ∧ Inv i ys X) B (ob ++ [(D, listP []), (C, nsP nm (lvN nm))]) s₀ Stt) ?_ n
      ⟨wr, 0, _, B, rfl, Nat.zero_le _, ⟨[], rfl, Nat.le_refl _, h0⟩, Sub.refl B, S₂, fun b hb => ⟨(hwr b hb).1, hne b hb⟩, hsd, rfl, hst₁ _⟩
    intro k s₅ hL₅ E₅
    have key := step_g (E := E₅) W s₀ hX hgs _ (fun i ob X Y k ⟨ys, h1, h2, h3⟩ => ⟨ys, h1, h2, hmono i ys X Y k h3⟩)
      (fun v K s₁' => wpAny (model prog w) A (assign target cenv v) (fun _ s₂ => wpAny (model prog w) A (eval elt cenv) (fun x s₄ => wpAny (model prog w) A (call (.builtin "list.append") [.ref D, x]) (fun _ s₅ => K s₅) E₅ s₄) E₅ s₂) E₅ s₁')
      (K (.ref D) C (.ok .next)) ?_ ?_ hL₅
    · refine wpAny_mono key (fun r s₁ h₁ => ?_) fun _ _ e => e
      cases r with
      | none => exact h₁
      | some v => exact wpAny_mono h₁ (fun _ s₂ h₂ => wpAny_mono h₂ (fun _ s₃ h₃ => wpAny_tests_nil h₃) fun _ _ e => e) fun _ _ e => e
    · rintro wr' i v B' ob₁ s₁ K' hi ⟨ys, rfl, hyl, hI⟩ hB S₆ hP sd hadr hK
      refine wpAny_mono (turn wr' i v ys B' s₁ E₅ D C cenv V' hi hI hB S₆ hP sd) (fun _ s₂ h₂ => wpAny_mono h₂ (fun x s₄ h₄ => ?_) fun _ _ e => e) fun _ _ e => e
      obtain ⟨B₄, lv, tl, hI₄, hs₄, T, sd₅⟩ := h₄
      have hj : (ob ++ [(D, listP ys), (C, nsP nm lv)] ++ keepers wr' s₁.heap ++ tl)[ob.length]? = some (D, listP ys) := by simp
      refine append_ ob.length T hj (by rw [sizeLine_eq]; omega) fun h' T₂ => hK _ ?_
      have e : (ob ++ [(D, listP ys), (C, nsP nm lv)] ++ keepers wr' s₁.heap ++ tl).set ob.length (D, listP (ys ++ [x])) = ob ++ [(D, listP (ys ++ [x])), (C, nsP nm lv)] ++ keepers wr' s₁.heap ++ tl := by
        simp [List.append_assoc, List.set_append_right]
      rw [e] at T₂
      have T₃ := (T₂.sub (List.sublist_append_left _ tl)).wk (ob.length + 1) (a := C) (P := nsP nm lv) (P' := nsP nm (lvN nm)) (by rw [List.append_assoc, List.getElem?_append_right (by omega)]; simp) (fun o h => nsP.none o h)
      have e2 : (ob ++ [(D, listP (ys ++ [x])), (C, nsP nm lv)] ++ keepers wr' s₁.heap).set (ob.length + 1) (C, nsP nm (lvN nm)) = ob ++ [(D, listP (ys ++ [x])), (C, nsP nm (lvN nm))] ++ keepers wr' s₁.heap := by
        rw [List.append_assoc, List.set_append_right _ _ (by omega)]; simp
      rw [e2] at T₃
      exact ⟨_, B₄, ⟨ys ++ [x], rfl, by simp; omega, hI₄⟩, by simp, hs₄, T₃, sd₅⟩
    · rintro wr' ob₁ B' s' ⟨ys, rfl, hyl, hI⟩ hB S₆ hw sd hadr hst'
      exact next_end A wr' s' _ _ rfl hst' fun s₁ m₁ => ⟨rfl, done D C ys B' s₁ hI hB (S₆.mv hw m₁) (m₁.side sd hgs)⟩
  exact codeAny_compStart_list loop (W.self _ 0 _ _ _ (hst₁ _) loop)
end
end Mine
end
/-! ## F15 -/
section
set_option maxRecDepth 100000
set_option maxHeartbeats 4000000
open PySem PySem.Calls PySem.W PyProof.Rows
namespace Mine
section
variable {prog : Program} {w : World} {A : Around} {E : Value → Shared → Prop} {s : Shared} {mg mb : Str → Option Value} {B : Rl} {ob : Ob}
theorem escOB_fst (text : Str) (t : Tok) (L : Addr) (xs : List Addr) (c : Nat) (b : Bool) : (escOB text t L xs c b).map (·.1) = L :: xs := by
  unfold escOB
  split
  · rfl
  · simp [Function.comp_def]
/-- a comprehension over the units of a text -/
theorem esc_go {ls : List Int} {t : Tok} {a : Addr} {elt target iter : PySem.Expr} {scope : Scope} {pos : Pos} {env : Env} {L : Addr} {names : List Str} {cells cells' : List (Str × Addr)} {globs nm gl : List Str}
    {K : Value → Addr → Result → Shared → Prop} (V : Ev env L names cells globs) (hs : ∀ p ∈ cells', p ∈ cells) (ok : compOk scope nm (cells'.map (·.1)) gl = true)
    (hls : ∀ x ∈ ls, Leaf x) (hlen : ls.length ≤ 1000) (ha : mg (defAt 4).name = some (.ref a)) (Rm : Room A 6 110) (S : St mg mb B s.heap ob)
    (Inv : Nat → List Value → Rl → Prop) (h0 : Inv 0 [] B) (hmono : ∀ i ys X Y, Sub X Y → Inv i ys X → Inv i ys Y)
    (turn : ∀ wr i v ys B' s₁ E D C cenv, Ev cenv C nm cells' gl → i < ls.length → Inv i ys B' → Sub B B' → St mg mb B' s₁.heap (ob ++ [(D, listP ys), (C, nsP nm (lvN nm))] ++ keepers wr s₁.heap) → escP ls i v B' → Side s s₁ →
      wpAny (model prog w) A (assign target cenv v) (fun _ s₂ => wpAny (model prog w) A (eval elt cenv) (fun x s₄ => TurnEnd mg mb ob D C nm (keepers wr s₁.heap) (Inv (i + 1) (ys ++ [x])) B' ys s₁ s₄) E s₂) E s₁)
    (done : ∀ D C ys B' s', Inv ls.length ys B' → Sub B B' → St mg mb B' s'.heap (ob ++ [(D, listP ys), (C, nsP nm (lvN nm))]) → Side s s' → K (.ref D) C (.ok .next) s') :
    codeAny (model prog w) A (.call (.ref a) ⟨[.str (textOf ls) t], []⟩) (RetQ (fun x s₁ => wpAny (model prog w) A (pyIter x) (fun it s₂ => wpAny (model prog w) A (newList []) (fun acc s₃ => wpAny (model prog w) A (newFunctionEnv scope env.globals (closG env scope.names []) [] env.qual none .none (some env)) (fun cenv s₄ =>
      codeAny (model prog w) A (.compStart (.ListComp elt [⟨target, iter, [], 0⟩] scope pos) 0 it acc { cenv with scope := relabel scope env }) (K acc cenv.locals) s₄) E s₃) E s₂) E s₁) E) s := by
  refine esc_call S.w ha (Rm.le (by omega) (by omega)) fun s' Lg I envg hk hos hg hLn hIn hLI hL hI Vg hco => ?_
  have S₁ : St mg mb B s'.heap ((ob ++ [(Lg, escF0 (textOf ls) t)]) ++ [(I, genP s.gens.size)]) := by
    refine ⟨S.wd, fun b o e => hk b o (S.keep b o e), fun p hp => ?_, ?_⟩
    · rcases List.mem_append.mp hp with hp | hp
      · rcases List.mem_append.mp hp with hp | hp
        · exact ⟨(S.own p hp).1.keep fun o => hk _ o, (S.own p hp).2⟩
        · cases List.mem_singleton.mp hp
          exact ⟨hL, fun o e => by have := S.keep _ _ e; rw [hLn] at this; cases this⟩
      · cases List.mem_singleton.mp hp
        exact ⟨hI, fun o e => by have := S.keep _ _ e; rw [hIn] at this; cases this⟩
    · have n1 : ∀ x, s.heap.get? x = none → x ∉ ob.map (·.1) := fun x hx hm => by obtain ⟨o, ho⟩ := S.there hm; rw [hx] at ho; cases ho
      rw [List.append_assoc, List.map_append, List.nodup_append]
      refine ⟨S.dis, by simp [hLI], fun x hx y hy e => ?_⟩
      subst e
      simp at hy
      rcases hy with rfl | rfl
      · exact n1 _ hLn hx
      · exact n1 _ hIn hx
  obtain ⟨S₂, hB₂, hab⟩ := S₁.absorb
  have hI₂ := hab I _ (List.mem_singleton.mpr rfl)
  generalize Mx (ob ++ [(Lg, escF0 (textOf ls) t)]) s'.heap = B₂ at S₂ hB₂ hI₂
  have S₃ := S₂.sub (List.sublist_append_left _ _)
  have SL : St mg mb B₂ s'.heap [(Lg, escF0 (textOf ls) t)] := S₂.sub (List.sublist_append_right _ _)
  have hLg : (∀ o, ¬ B₂ Lg o) ∧ Lg ∉ ob.map (·.1) := ⟨SL.off 0 rfl, fun hm => by obtain ⟨o, ho⟩ := S.there hm; rw [hLn] at ho; cases ho⟩
  have hgs : s'.gens[s.gens.size]? = some (.fresh (.func (defAt 4).body envg)) := by rw [hg]; simp
  have sd : Side s s' := by
    refine ⟨hos, fun i x e => ?_, fun hb => ?_⟩
    · rw [hg, Array.getElem?_push]
      have hlt : i < s.gens.size := (Array.getElem?_eq_some_iff.mp e).1
      rw [if_neg (by omega)]; exact e
    · rw [hg]; exact hb.push rfl
  have first : ∀ s₁ : Shared, St mg mb B₂ s₁.heap [(Lg, escF0 (textOf ls) t)] → ∃ xs, (∀ b ∈ xs, s₁.heap.get? b = none) ∧ Seg (model prog w) A.in1 (Rp (Lg :: xs)) (Yp mg mb B₂ (Lg :: xs) (fun i => escOB (textOf ls) t Lg xs (off ls i) (escAt ls i)) (escP ls) ls.length True) ls.length s₁ (.func (defAt 4).body envg) ((model prog w).den (.func (defAt 4).body envg)) [] s₁ :=
    fun s₁ S₁ => esc_first hls Vg hco (Rm.le (by omega) (by omega)) S₁
  have hroom : A.depth < recursionLimit := by have := Rm.hd; omega
  have hgen : s'.heap.IsGen I s.gens.size := let ⟨o, nm, qn, h1, h2, h3, h4⟩ : ∃ o nm qn, s'.heap.get? I = some o ∧ _ ∧ _ ∧ _ := let ⟨o, ho, nm, qn, h⟩ := hI₂; ⟨o, nm, qn, S₂.keep _ _ ho, h⟩; ⟨o, nm, qn, h1, h2, h3, h4⟩
  show wpAny _ A (pyIter (.ref I)) _ _ s'
  refine wpAny_pyIter_gen hgen ?_
  refine comp_blockG (wr := [Lg]) (n := ls.length) V hs ok (WkG.gen (OB := fun xs i => escOB (textOf ls) t Lg xs (off ls i) (escAt ls i)) (P := escP ls) (N := ls.length) (fin := True) Rm.hh hroom hI₂ (.inl trivial) (fun xs i => escOB_fst _ _ _ _ _ _)
    (fun i v X Y k ⟨T, u₁, u₂, x, h1, h2, h3⟩ => ⟨T, u₁, u₂, x, h1, h2, h3.mono k⟩) (fun v s Q E hg h => letGo_gen hg h) first) s (Sub.refl _) (by omega) S₃ (fun b hb => by rw [List.mem_singleton.mp hb]; exact hLg) sd
    (fun g hg => by rw [List.mem_singleton.mp hg]; simp) (.inl ⟨rfl, rfl, SL, hgs⟩) Inv (hmono _ _ _ _ hB₂ h0) hmono
    (fun wr i v ys B' s₁ E D C cenv a b c d e f g => turn wr i v ys B' s₁ E D C cenv a b c (hB₂.trans d) e f g) (fun A' wr s₁ Q E hA st hQ => ?_) (fun D C ys B' s₁ a b c d => done D C ys B' s₁ a (hB₂.trans b) c d)
  subst hA
  exact gen_done Rm.hh hroom hI₂ first st hQ

abbrev uN : List Str := ["place", "unit"]
theorem units_ok {ls : List Int} {t : Tok} {a : Addr} {R : Result → Shared → Prop} (W : Wd mg mb s.heap) (ha : mg (defAt 10).name = some (.ref a)) (hls : ∀ x ∈ ls, Leaf x) (hlen : ls.length ≤ 1000) (Rm : Room A 8 120)
    (h : ∀ s' r, Goes s s' → Ints (New s s' []) r ls → R (.ok (.ret (.ref r))) s') : codeAny (model prog w) A (.call (.ref a) ⟨[.str (textOf ls) t], []⟩) R s := by
  refine enter (d := 6) (u := 110) 10 (by decide) ["text"] [] ["_iter_escaped_chars"] W ha (Rm.le (by omega) (by omega)) (by decide +kernel) (fun _ _ _ => rfl) rfl rfl ?_
  intro L h₁ tk env A' E V Rm' S
  change St mg mb _ h₁ [(L, nsP ["text"] [some (.str (textOf ls) t)])] at S
  refine wpAny_execs_cons (wpAny_Return_some ?_)
  refine comp_eval (nm := uN) (gl := ["ord", "len"]) (cells' := []) V (fun p hp => nomatch hp) (show compOk _ uN [] ["ord", "len"] = true by decide +kernel) ?_
  refine call1 4 (by decide) S V rfl (by decide) fun a₂ ha₂ => ldl 0 0 S V rfl rfl rfl ⟨S.w, ?_⟩
  refine esc_go (nm := uN) (gl := ["ord", "len"]) (cells' := []) V (fun p hp => nomatch hp) (show compOk _ uN [] ["ord", "len"] = true by decide +kernel) hls hlen ha₂ Rm' S
    (fun i ys _ => IntsAre ys (ls.take i)) (by simpa using IntsAre.nil) (fun _ _ _ _ _ h => h) ?_ ?_
  · rintro wr i v ys B' s₁ E₁ D C cenv V₁ hi hys hB S₁ ⟨T, u₁, u₂, x, rfl, hx, hT⟩ sd
    change St mg mb B' s₁.heap ([(L, nsP ["text"] [some (.str (textOf ls) t)]), (D, listP ys), (C, nsP uN [none, none])] ++ keepers wr s₁.heap) at S₁
    refine asg2 2 0 1 S₁ V₁ Rm'.hh (hT.mono S₁.hp).isTup rfl rfl rfl fun h₂ tk₂ S₂ => ?_
    change St mg mb B' h₂ ([(L, nsP ["text"] [some (.str (textOf ls) t)]), (D, listP ys), (C, nsP uN [some (.int ((off ls (i + 1) : Int) - 1) u₁), some (.str (textOf [x]) u₂)])] ++ keepers wr s₁.heap) at S₂
    have hlf := hls x (List.mem_of_getElem? hx)
    obtain ⟨c, n, e1, e2, e3⟩ : ∃ c n : Nat, Txt.item (textOf [x]) (-1) = ⟨#[c]⟩ ∧ (textOf [x]).length = n ∧ (1 ≤ n ∧ n ≤ 2 ∧ (c : Int) + 128 * ((n : Int) - 1) = x) := by
      rcases hlf with rfl | rfl | rfl
      · exact ⟨97, 1, by decide +kernel, by decide +kernel, by decide⟩
      · exact ⟨98, 1, by decide +kernel, by decide +kernel, by decide⟩
      · exact ⟨127, 2, by decide +kernel, by decide +kernel, by decide⟩
    refine wpAny_BinOp (bcall1 (id := "ord") S₂ V₁ (by decide) (by decide) (by rfl) (Subscript_ (ldl 2 1 S₂ V₁ rfl rfl rfl (UnaryOp_ (wpAny_Constant_int (P.neg_int ?_))))))
    refine item_str (by decide) (by rw [e2]; omega) (by rw [e2]; omega) fun _ => ?_
    rw [e1]
    refine ord_of_one rfl ?_
    refine wpAny_BinOp (wpAny_Constant_int (wpAny_BinOp (bcall1 (id := "len") S₂ V₁ (by decide) (by decide) (by rfl) (ldl 2 1 S₂ V₁ rfl rfl rfl (len_str (by rw [e2]; omega) (wpAny_Constant_int (sub_int (mul_int (add_int ?_)))))))))
    have S₃ := S₂.wk 2 rfl (nsP.weak (lv' := [none, none]) ⟨.inl rfl, .inl rfl, trivial⟩)
    refine ⟨B', [none, none], [], ?_, Sub.refl _, ?_, Side.refl _⟩
    · rw [e2]
      have ec : (((⟨#[c]⟩ : Str).cps.getD 0 0 : Nat) : Int) = c := rfl
      rw [ec, e3.2.2]
      have et : ls.take (i + 1) = ls.take i ++ [x] := by rw [List.take_add_one, hx]; rfl
      rw [et]
      exact intsApp hys (intsOne _ _)
    · simpa using S₃
  · intro D C ys B' s' hys hB S' sd
    refine post_eval (ob := [(L, nsP ["text"] [some (.str (textOf ls) t)])]) S' fun h₂ S₂ => ?_
    rw [List.take_length] at hys
    obtain ⟨o, ho, hp⟩ := S₂.at 1 rfl
    refine h _ D ⟨fun b o e => S₂.keep b o (hB b o e), sd⟩ ⟨ys, ⟨o, ⟨ho, .inl (S₂.new hB 1 rfl)⟩, hp⟩, hys⟩
end
end Mine
end
/-! ## F16 -/
section
set_option maxRecDepth 100000
set_option maxHeartbeats 4000000
open PySem PySem.Calls PySem.W PyProof.Rows
namespace Mine
section
variable {prog : Program} {w : World} {A : Around} {E : Value → Shared → Prop} {s : Shared} {mg mb : Str → Option Value} {B : Rl} {ob : Ob}
theorem litNext (j : Nat) {it l : Addr} {k : Nat} {xs : List Value} {v : Value} {Q : Option Value → Shared → Prop} (S : St mg mb B s.heap ob) (hj : ob[j]? = some (it, litP l k)) (hl : Lst B l xs) (hx : xs[k]? = some v)
    (h : ∀ h', St mg mb B h' (ob.set j (it, litP l (k + 1))) → Q (some v) { s with heap := h' }) : wpAny (model prog w) A (pyNext (.ref it)) Q E s := by
  refine wpAny_pyNext_list_item (S.at j hj).isIter (hl.mono S.hp).isList (x := v) (by simpa using hx) fun h' hit' hs' => h h' ?_
  exact S.same j hj hs' hit'
end

abbrev gN : List Str := ["grouping", "last_interval", "interval"]
def grpFor : PySem.Expr × List Stmt := match (defAt 7).body with
  | _ :: .For t _ b _ _ :: _ => (t, b)
  | _ => (.Name "" ⟨0, 0, 0, 0⟩, [])
def grpWhile : List Stmt := match grpFor.2 with
  | _ :: .If _ (_ :: .While _ b _ _ :: _) _ _ :: _ => b
  | _ => []
def grpTest : PySem.Expr := match grpFor.2 with
  | _ :: .If _ (_ :: .While t _ _ _ :: _) _ _ :: _ => t
  | _ => (.Name "" ⟨0, 0, 0, 0⟩)
def grpOB (l L : Addr) (vs : List Value) (xs : List Addr) (i : Nat) : Ob := match xs with
  | [it] => if i ≤ vs.length then [(L, nsP gN [some (.ref l), none, vs[i - 1]?]), (it, litP l i)] else [(L, nsP gN [some (.ref l), vs.getLast?, none]), (it, litP l (vs.length + 1))]
  | _ => (L, anyP) :: xs.map fun b => (b, anyP)
theorem grpOB_fst (l L : Addr) (vs : List Value) (xs : List Addr) (i : Nat) : (grpOB l L vs xs i).map (·.1) = L :: xs := by
  unfold grpOB
  split
  · split <;> rfl
  · simp [Function.comp_def]
def grpV (szs : List Int) (i : Nat) : Int := (szs[i]?).getD (szs.getLast?.getD 0)
def grpP (szs : List Int) (i : Nat) (v : Value) (_ : Rl) : Prop := ∃ t, v = .int (grpV szs i) t
theorem grpV_lt {szs : List Int} {i : Nat} {n : Int} (h : szs[i]? = some n) : grpV szs i = n := by simp [grpV, h]
theorem grpV_ge {szs : List Int} {i : Nat} {n : Int} (h : szs.length ≤ i) (hl : szs.getLast? = some n) : grpV szs i = n := by
  have : szs[i]? = none := by simp [h]
  simp [grpV, this, hl]

section
variable {prog : Program} {w : World} {A : Around} {mg mb : Str → Option Value} {X : Rl}
theorem grp_while {szs : List Int} {vs : List Value} {n : Int} {tn : Tok} {l L it : Addr} {env : Env} {N : Nat} {c₁ c₂ : Code} {k₁ k₂ : Result → Sem Fin} {p₁ p₂ : Pos} {lv₁ lv₂ : List Value} {hX : Heap} (hlen : vs.length = szs.length) (hvl : vs.getLast? = some (.int n tn)) (hnl : szs.getLast? = some n) (V : Ev env L gN [] ["CHAR_MAX"]) (hco : env.scope.isCoroutine = false) (SX : St mg mb X hX [])
    (Rm : Room A 4 95) (hc1 : c₁ = .func (defAt 7).body env) (hc2 : c₂ = .forLoop grpFor.1 (.ref it) grpFor.2 [] env) :
    ∀ (m k : Nat), 0 < m → szs.length ≤ k → k + m = N → ∀ (s₀ s : Shared), Sub X (MxA [L, it] s₀.heap) → St mg mb (MxA [L, it] s₀.heap) s.heap [(L, nsP gN [some (.ref l), some (.int n tn), none]), (it, litP l (vs.length + 1))] → s.os = s₀.os → s.gens = s₀.gens →
      Seg (model prog w) A (Rp [L, it]) (Yp mg mb X [L, it] (grpOB l L vs [it]) (grpP szs) N False) m s₀
        (.whileLoop grpTest grpWhile [] env) ((model prog w).den (.whileLoop grpTest grpWhile [] env)) [.ret k₂ none false lv₂ c₂ p₂ [], .ret k₁ none false lv₁ c₁ p₁ []] s := by
  subst hc1 hc2
  have Rm' : Room (A.over (.whileLoop grpTest grpWhile [] env) [.ret k₂ none false lv₂ (.forLoop grpFor.1 (.ref it) grpFor.2 [] env) p₂ [], .ret k₁ none false lv₁ (.func (defAt 7).body env) p₁ []]) 2 80 := over_room (m := 1) (m' := 12) (Rm.le (by omega) (by omega)) rfl (Nat.le_refl _) (Nat.le_of_ble_eq_true rfl)
  intro m
  induction m with
  | zero => intro k h; omega
  | succ m ih =>
    intro k _ hsk hk s₀ s hXs S hos hgens
    refine seg_whileLoop (isTrue_plain (Constant_bool (wpAny_truthy_bool ?_)))
    simp only [if_true]
    refine seg_execs_cons (seg_Expr_Yield rfl rfl rfl (ldl 0 1 S V rfl rfl rfl ?_) hco (by unfold interactive; rw [V.kind]; rfl))
    intro kap hkap
    have hNm : N - m = k + 1 := by omega
    have hNm1 : N - (m + 1) = k := by omega
    refine ⟨⟨tn, ?_⟩, ⟨fun b o hb ho => S.keep b o ⟨ho, hb⟩, hos, hgens⟩, ?_, fun hm s'' hs'' => hkap .none s'' (seg_again rfl ?_)⟩
    · rw [hNm1, grpV_ge hsk hnl]
    · rw [hNm]
      have e : grpOB l L vs [it] (k + 1) = [(L, nsP gN [some (.ref l), some (.int n tn), none]), (it, litP l (vs.length + 1))] := by
        simp only [grpOB]
        rw [if_neg (by omega), hvl]
      rw [e]
      exact SX.less S hXs
    · have e : grpOB l L vs [it] (N - m) = [(L, nsP gN [some (.ref l), some (.int n tn), none]), (it, litP l (vs.length + 1))] := by
        simp only [grpOB]
        rw [if_neg (by omega), hvl]
      rw [e] at hs''
      exact ih (k + 1) (by simpa using hm) (by omega) (by omega) s'' s'' hs''.subMx hs''.max rfl rfl
theorem grp_loop {szs : List Int} {vs : List Value} {t0 : Tok} {l L it : Addr} {env : Env} {N : Nat} {c₁ : Code} {k₁ : Result → Sem Fin} {p₁ : Pos} {lv₁ : List Value} {hX : Heap} (hvs : IntsAre vs szs) (hne : szs ≠ []) (hok : ∀ x ∈ szs, x ≠ 127 ∧ x ≠ 0) (hl : Lst X l (vs ++ [.int 0 t0])) (V : Ev env L gN [] ["CHAR_MAX"]) (hco : env.scope.isCoroutine = false) (SX : St mg mb X hX [])
    (Rm : Room A 5 100) (hc1 : c₁ = .func (defAt 7).body env) :
    ∀ (m k : Nat), 0 < m → k ≤ szs.length → k + m = N → ∀ (lst : Value), (k = 0 ∨ vs[k - 1]? = some lst) → ∀ (s₀ s : Shared), Sub X (MxA [L, it] s₀.heap) → St mg mb (MxA [L, it] s₀.heap) s.heap [(L, nsP gN [some (.ref l), some lst, none]), (it, litP l k)] → s.os = s₀.os → s.gens = s₀.gens →
      Seg (model prog w) A (Rp [L, it]) (Yp mg mb X [L, it] (grpOB l L vs [it]) (grpP szs) N False) m s₀
        (.forLoop grpFor.1 (.ref it) grpFor.2 [] env) ((model prog w).den (.forLoop grpFor.1 (.ref it) grpFor.2 [] env)) [.ret k₁ none false lv₁ c₁ p₁ []] s := by
  subst hc1
  have Rm' : Room (A.over (.forLoop grpFor.1 (.ref it) grpFor.2 [] env) [.ret k₁ none false lv₁ (.func (defAt 7).body env) p₁ []]) 2 80 := over_room (m := 1) (m' := 3) (Rm.le (by omega) (by omega)) rfl (Nat.le_refl _) (Nat.le_refl _)
  obtain ⟨tc, hcm⟩ := SX.w.cm
  intro m
  induction m with
  | zero => intro k h; omega
  | succ m ih =>
    intro k _ hks hk lst hlst s₀ s hXs S hos hgens
    have hlB := hl.mono hXs
    have hNm : N - m = k + 1 := by omega
    have hNm1 : N - (m + 1) = k := by omega
    by_cases hlt : k < szs.length
    · obtain ⟨x, hx⟩ : ∃ x, szs[k]? = some x := ⟨_, List.getElem?_eq_getElem hlt⟩
      obtain ⟨tx, hv⟩ := hvs.get k x hx
      obtain ⟨hx1, hx0⟩ := hok x (List.mem_of_getElem? hx)
      have hvlt : k < vs.length := by rw [hvs.length]; exact hlt
      refine seg_forLoop fun E => litNext 1 S rfl hlB (v := .int x tx) (by rw [List.getElem?_append_left hvlt]; exact hv) fun h₁ S₁ => wpAny_pure (assign_Name (stl 0 2 S₁ V rfl rfl fun h₂ S₂ => ?_))
      change St mg mb _ h₂ [(L, nsP gN [some (.ref l), some lst, some (.int x tx)]), (it, litP l (k + 1))] at S₂
      refine seg_execs_cons (seg_if fun E => wpAny_isTrue_Compare1 (ldl 0 2 S₂ V rfl rfl rfl (ldg S₂ V (by decide) hcm (eq_int (wpAny_truthy_bool ?_)))))
      rw [show (x == (127 : Int)) = false by simpa using hx1]
      simp only [Bool.false_eq_true, if_false]
      refine seg_execs_cons (seg_if fun E => wpAny_isTrue_Compare1 (ldl 0 2 S₂ V rfl rfl rfl (wpAny_Constant_int (eq_int (wpAny_truthy_bool ?_)))))
      rw [show (x == (0 : Int)) = false by simpa using hx0]
      simp only [Bool.false_eq_true, if_false]
      refine seg_execs_cons (seg_Expr_Yield rfl rfl rfl (ldl 0 2 S₂ V rfl rfl rfl ?_) hco (by unfold interactive; rw [V.kind]; rfl))
      intro kap hkap
      have e : grpOB l L vs [it] (k + 1) = [(L, nsP gN [some (.ref l), none, some (.int x tx)]), (it, litP l (k + 1))] := by
        simp only [grpOB]
        rw [if_pos (by omega), Nat.add_sub_cancel, hv]
      refine ⟨⟨tx, ?_⟩, ⟨fun b o hb ho => S₂.keep b o ⟨ho, hb⟩, hos, hgens⟩, ?_, fun hm s'' hs'' => hkap .none s'' ?_⟩
      · rw [hNm1, grpV_lt hx]
      · rw [hNm, e]
        exact SX.less (S₂.wk 0 rfl (nsP.weak ⟨.inr rfl, .inl rfl, .inr rfl, trivial⟩)) hXs
      · rw [hNm, e] at hs''
        have T := hs''.max
        refine seg_execs_cons (seg_w fun E => wpAny_Assign_Name (ldl 0 2 T V rfl rfl rfl (stl 0 1 T V rfl rfl fun h₃ S₃ => ?_)))
        refine seg_again rfl (ih (k + 1) (by simpa using hm) (by omega) (by omega) (.int x tx) (.inr (by rw [Nat.add_sub_cancel]; exact hv)) s'' _ hs''.subMx ?_ rfl rfl)
        exact S₃.wk 0 rfl (nsP.weak ⟨.inr rfl, .inr rfl, .inl rfl, trivial⟩)
    · have hke : k = szs.length := by omega
      have hvk : k = vs.length := by rw [hvs.length]; exact hke
      have hpos : 0 < szs.length := List.length_pos_iff.mpr hne
      obtain ⟨n, hn⟩ : ∃ n, szs[k - 1]? = some n := ⟨_, List.getElem?_eq_getElem (by omega)⟩
      obtain ⟨tn, hvn⟩ := hvs.get (k - 1) n hn
      obtain rfl : lst = .int n tn := by
        rcases hlst with h | h
        · omega
        · rw [hvn] at h; exact (Option.some.inj h).symm
      have hvl : vs.getLast? = some (.int n tn) := by rw [List.getLast?_eq_getElem?, ← hvk]; exact hvn
      have hnl : szs.getLast? = some n := by rw [List.getLast?_eq_getElem?, ← hke]; exact hn
      refine seg_forLoop fun E => litNext 1 S rfl hlB (v := .int 0 t0) (by rw [hvk]; simp) fun h₁ S₁ => wpAny_pure (assign_Name (stl 0 2 S₁ V rfl rfl fun h₂ S₂ => ?_))
      change St mg mb _ h₂ [(L, nsP gN [some (.ref l), some (.int n tn), some (.int 0 t0)]), (it, litP l (k + 1))] at S₂
      refine seg_execs_cons (seg_if fun E => wpAny_isTrue_Compare1 (ldl 0 2 S₂ V rfl rfl rfl (ldg S₂ V (by decide) hcm (eq_int (wpAny_truthy_bool ?_)))))
      rw [show ((0 : Int) == (127 : Int)) = false by decide]
      simp only [Bool.false_eq_true, if_false]
      refine seg_execs_cons (seg_if fun E => wpAny_isTrue_Compare1 (ldl 0 2 S₂ V rfl rfl rfl (wpAny_Constant_int (eq_int (wpAny_truthy_bool ?_)))))
      rw [show ((0 : Int) == (0 : Int)) = true by decide]
      simp only [if_true]
      refine seg_execs_cons (seg_if fun E => wpAny_isTrue_Compare1 (ldl 0 1 S₂ V rfl rfl rfl (Constant_none (is_int_none (wpAny_truthy_bool ?_)))))
      simp only [Bool.false_eq_true, if_false]
      refine seg_execs_cons (seg_While fun p => ?_)
      have S₃ := S₂.wk 0 rfl (nsP.weak (lv' := [some (.ref l), some (.int n tn), none]) ⟨.inr rfl, .inr rfl, .inl rfl, trivial⟩)
      rw [hvk] at S₃
      exact grp_while hvs.length hvl hnl V hco SX (Rm.le (by omega) (by omega)) rfl rfl (m + 1) k (by omega) (by omega) hk s₀ _ hXs S₃ hos hgens
end
end Mine
end
/-! ## F17 -/
section
set_option maxRecDepth 100000
set_option maxHeartbeats 4000000
open PySem PySem.Calls PySem.W PyProof.Rows
namespace Mine
theorem pickBoth (xs : List Value) (a b : Nat) : (slicePick xs.toArray (some (a : Int)) (some (b : Int)) none).toList = (xs.drop a).take (b - a) := by
  rw [slicePick_plain]
  simp only [Option.elim, clipAt_nat, List.size_toArray]
  show (xs.drop (min a xs.length)).take (min b xs.length - min a xs.length) = _
  rcases Nat.le_total a xs.length with h | h
  · rw [Nat.min_eq_left h]
    rcases Nat.le_total b xs.length with h2 | h2
    · rw [Nat.min_eq_left h2]
    · rw [Nat.min_eq_right h2, List.take_of_length_le (by simp), List.take_of_length_le (by simp; omega)]
  · rw [Nat.min_eq_right h, List.drop_of_length_le (Nat.le_refl _), List.drop_of_length_le h]; simp
theorem pickTo (xs : List Value) (b : Nat) : (slicePick xs.toArray none (some (b : Int)) none).toList = xs.take b := by rw [slicePick_upto']
theorem pickFrom (xs : List Value) (a : Nat) : (slicePick xs.toArray (some (a : Int)) none none).toList = xs.drop a := by rw [slicePick_from']
theorem pickAll (xs : List Value) : (slicePick xs.toArray none none none).toList = xs := by rw [slicePick_all]
theorem pickButLast (xs : List Value) : (slicePick xs.toArray none (some (-1 : Int)) none).toList = xs.dropLast := by
  have := slicePick_butLast xs.toArray 1 (Nat.le_refl _)
  rw [show ((-1 : Int)) = -((1 : Nat) : Int) from rfl, this]
  simp [List.dropLast_eq_take]

section
variable {prog : Program} {w : World} {A : Around} {E : Value → Shared → Prop} {s : Shared} {mg mb : Str → Option Value} {B : Rl} {ob : Ob} {env : Env}
/-- a slice of a list -/
theorem slice_ {value : PySem.Expr} {lower upper : Option PySem.Expr} {p pos : Pos} {Q : Value → Shared → Prop}
    (h : wpAny (model prog w) A (eval value env) (fun o s₁ => wpAny (model prog w) A (evalPart lower env) (fun vl s₂ => wpAny (model prog w) A (evalPart upper env) (fun vu s₃ =>
      ∃ (l : Addr) (xs : List Value) (lo hi : Option Int), o = .ref l ∧ s₃.heap.IsList l xs.toArray ∧ xs.length ≤ 16777216 ∧ IsPart vl lo ∧ IsPart vu hi ∧ ∃ B ob, St mg mb B s₃.heap ob ∧
        ∀ D h', St mg mb B h' (ob ++ [(D, listP (slicePick xs.toArray lo hi none).toList)]) → Q (.ref D) { s₃ with heap := h' }) E s₂) E s₁) E s)
    (ht : ∀ o r, letTemporaryGo value o r = pure () := by intro _ _; rfl) :
    wpAny (model prog w) A (eval (.Subscript value (.Slice lower upper none p) pos) env) Q E s := by
  refine wpAny_Subscript_list_slice (wpAny_mono h (fun o s₁ h₁ => wpAny_mono h₁ (fun vl s₂ h₂ => wpAny_mono h₂ (fun vu s₃ h₃ => ?_) fun _ _ e => e) fun _ _ e => e) fun _ _ e => e) ht
  obtain ⟨l, xs, lo, hi, rfl, hl, hsz, pl, pu, B, ob, S, hQ⟩ := h₃
  refine ⟨l, xs.toArray, lo, hi, rfl, hl, by rw [sizeLine_eq]; simpa using hsz, pl, pu, ?_⟩
  have S₁ : St mg mb B (s₃.heap.push { cls := .type "slice", data := .fields #[vl, vu, .none] }) ob := S.grow fun b o e => Heap.get?_push_of_some _ e
  have S₂ := S₁.push (o := { cls := .type "list", data := .seq (slicePick xs.toArray lo hi none) }) (listP (slicePick xs.toArray lo hi none).toList) ⟨rfl, rfl, 0, by simp⟩
  rw [Heap.size_push] at S₂
  exact hQ _ _ S₂
/-- two lists glued -/
theorem addL_ {l b : Addr} {vs ws : List Value} {Q : Value → Shared → Prop} (S : St mg mb B s.heap ob) (hl : s.heap.IsList l vs.toArray) (hb : s.heap.IsList b ws.toArray) (hsz : vs.length + ws.length ≤ 16777216)
    (h : ∀ D h', St mg mb B h' (ob ++ [(D, listP (vs ++ ws))]) → Q (.ref D) { s with heap := h' }) : wpAny (model prog w) A (binaryOp .Add (.ref l) (.ref b)) Q E s := by
  obtain ⟨⟨cls, dd, data, sl⟩, ho, hc, n, hd⟩ := id hl
  obtain ⟨⟨cls2, dd2, data2, sl2⟩, ho2, hc2, n2, hd2⟩ := id hb
  simp only at hc hd hc2 hd2
  subst hc hd hc2 hd2
  refine concat_meets ⟨_, ho, rfl⟩ ⟨_, ho2, rfl⟩ noFill_list_add seq_list_add F.slot_list_add F.entry_list_add (F.args_list_add_2 _ _) (list_addW l b vs.toArray ws.toArray n n2 dd dd2 sl sl2 (by rw [sizeLine_eq]; simpa using hsz)) ⟨ho, ho2, ?_⟩
  have e : vs.toArray ++ ws.toArray = (vs ++ ws).toArray := by simp
  rw [e]
  exact h _ _ (S.push (listP (vs ++ ws)) ⟨rfl, rfl, 0, rfl⟩)
theorem lenL_ {l : Addr} {xs : List Value} {Q : Value → Shared → Prop} (hl : s.heap.IsList l xs.toArray) (hsz : xs.length ≤ 16777216) (h : ∀ t tk, Q (.int xs.length t) { s with toks := tk }) :
    wpAny (model prog w) A (call (.builtin "len") [.ref l]) Q E s :=
  len_list hl (by simp; omega) (by simpa using h _ _)

/-- range -/
theorem Wk.range {prog : Program} {w : World} {A : Around} (hh : A.handled = none) (I : Addr) (n : Nat) (x : Str) (pos : Pos) :
    Wk prog w A I [I] [I] [] n (.Name x pos) (fun i v _ => ∃ t, v = .int i t) (fun i s => IsRangeIter s.heap I i ((n : Int) - i) 1) (fun i _ s => IsRangeIter s.heap I ((i + 1 : Nat) : Int) ((n : Int) - ((i + 1 : Nat) : Int)) 1) where
  mono := fun _ _ _ _ _ h => h
  sub := fun b hb => hb
  nd := by simp
  here := fun i s st b hb => by rw [List.mem_singleton.mp hb]; exact ⟨_, st⟩
  frame := fun i s s' st k _ => k I (by simp) _ st
  item := fun i s Q E hi st hQ => by
    refine wpAny_pyNext_range_item st (by omega) fun h' hit' hs' => ?_
    refine hQ _ { s with heap := h', toks := s.toks + 1 } ⟨_, rfl⟩ ?_ ⟨fun b o hb e => hs'.extBut b o (fun h => hb (by simp [h])) e, rfl, fun _ _ _ e => e, id⟩
    have e1 : (i : Int) + 1 = ((i + 1 : Nat) : Int) := by push_cast; rfl
    have e2 : (n : Int) - i - 1 = (n : Int) - ((i + 1 : Nat) : Int) := by push_cast; omega
    rw [e1, e2] at hit'
    exact hit'
  go := fun i v s Q E st hQ => wpAny_pure (hQ s st ⟨fun _ _ _ e => e, rfl, fun _ _ _ e => e, id⟩)
  done := fun s Q E st hQ => wpAny_pyNext_range_end hh st (by omega) fun h' he' => hQ _ ⟨fun b o hb e => he' b o (fun h => hb (by simp [h])) e, rfl, fun _ _ _ e => e, id⟩
  self := fun i s Q E st hQ => wpAny_pyIter_rangeiter st hQ

theorem range_ {n : Nat} {t : Tok} {Q : Value → Shared → Prop} (S : St mg mb B s.heap ob) (hn : n ≤ 1000000)
    (h : ∀ it h' tk, St mg mb B h' ob → (∀ b ∈ [it], (∀ o, ¬ B b o) ∧ b ∉ ob.map (·.1)) → (∀ b ∈ [it], b ∉ ob.map (·.1)) → (∀ b ∈ [it], b < h'.objs.size) → IsRangeIter h' it ((0 : Nat) : Int) ((n : Int) - ((0 : Nat) : Int)) 1 → Q (.ref it) { s with heap := h', toks := tk }) :
    wpAny (model prog w) A (call (.type "range") [.int n t]) (fun x s₁ => wpAny (model prog w) A (pyIter x) Q E s₁) E s := by
  refine call_range_1 ?_
  have hr : Builtin.Range.rangeSize 0 n 1 = (n : Int) := by
    unfold Builtin.Range.rangeSize
    simp
    omega
  refine wpAny_pyIter_range (a := 0) (b := n) (c := 1) (Heap.get?_push_size _ rfl) (by
    unfold Builtin.Range.small
    rw [hr]
    simp [Builtin.Range.rangeFitsLong]
    omega) ?_
  rw [hr]
  have hsz := Heap.size_push s.heap { cls := .type "range", data := .fields #[.int 0 s.toks, .int n t, .int 1 (s.toks + 1)] }
  generalize hH : s.heap.push { cls := .type "range", data := .fields #[.int 0 s.toks, .int n t, .int 1 (s.toks + 1)] } = H at hsz ⊢
  have S₁ : St mg mb B H ob := S.grow fun b o e => by rw [← hH]; exact Heap.get?_push_of_some _ e
  have off : (∀ o, ¬ B H.objs.size o) ∧ H.objs.size ∉ ob.map (·.1) := ⟨fun o e => absurd (Heap.lt_size (S₁.keep _ o e)) (Nat.lt_irrefl _), fun hm => by
    obtain ⟨o, ho⟩ := S₁.there hm
    exact absurd (Heap.lt_size ho) (Nat.lt_irrefl _)⟩
  have S₂ : St mg mb B (H.push { cls := .type "range_iterator", data := .fields #[rawInt 0, rawInt n, rawInt 1] }) ob := S₁.grow fun b o e => Heap.get?_push_of_some _ e
  refine h _ _ _ S₂ (fun b hb => by rw [List.mem_singleton.mp hb]; exact off) (fun b hb => by rw [List.mem_singleton.mp hb]; exact off.2) (fun b hb => by rw [List.mem_singleton.mp hb, Heap.size_push]; exact Nat.lt_succ_self _) ?_
  have e : (n : Int) - ((0 : Nat) : Int) = n := by simp
  rw [e]
  exact Heap.get?_push_size _ rfl

/-- any iterator that hands tuples -/
theorem Wk.ofT {prog : Program} {w : World} {A : Around} {I : Addr} {fp wr : List Addr} {n : Nat} {Pt : Nat → Array Value → Prop} {Stt : Nat → Heap → Prop} {Mid : Nat → Addr → Heap → Prop} (W : WalksT prog w A I fp wr n Pt Stt Mid) (nd : wr.Nodup)
    (here : ∀ i h, Stt i h → ∀ b ∈ wr, ∃ o, h.get? b = some o) (elts : List PySem.Expr) (k : Nat) (pos : Pos) :
    Wk prog w A I wr fp [] n (.Tuple elts k pos) (fun i v X => ∃ T vals, v = .ref T ∧ Pt i vals ∧ Tup X T vals.toList) (fun i s => Stt i s.heap) (fun i v s => ∃ T, v = .ref T ∧ Mid i T s.heap) where
  mono := fun _ _ _ _ h ⟨T, vals, h1, h2, h3⟩ => ⟨T, vals, h1, h2, h3.mono h⟩
  sub := W.sub
  nd := nd
  here := fun i s st b hb => here i _ st b hb
  frame := fun i s s' st k _ => W.frame i _ _ st k
  item := fun i s Q E hi st hQ => by
    refine W.item i s Q E hi st fun T vals h' tk hP hT hIs hM hk => ?_
    obtain ⟨o, ho, hp⟩ := hIs
    refine hQ _ { s with heap := h', toks := tk } ⟨T, vals, rfl, hP, o, ⟨no_size hT, ho⟩, hp⟩ ⟨T, rfl, hM⟩ ⟨hk, rfl, fun _ _ _ e => e, id⟩
  go := fun i v s Q E ⟨T, hv, hM⟩ hQ => by
    subst hv
    exact W.go elts k pos i T s Q E hM fun h' st' hk => hQ _ st' ⟨hk, rfl, fun _ _ _ e => e, id⟩
  done := fun s Q E st hQ => W.done s Q E st fun h' tk hk => hQ _ ⟨hk, rfl, fun _ _ _ e => e, id⟩
  self := fun i s Q E st hQ => W.self i s Q E st hQ
end
end Mine
end
/-! ## F18 -/
section
set_option maxRecDepth 100000
set_option maxHeartbeats 4000000
open PySem PySem.Calls PySem.W PyProof.Rows
namespace Mine
section
variable {prog : Program} {w : World} {A : Around} {E : Value → Shared → Prop} {s : Shared} {mg mb : Str → Option Value} {B X : Rl} {ob : Ob}
abbrev grpF0 (l : Addr) : Th := nsP gN [some (.ref l), none, none]
theorem grp_first {szs : List Int} {vs : List Value} {t0 : Tok} {l L : Addr} {env : Env} {N : Nat} (hvs : IntsAre vs szs) (hne : szs ≠ []) (hok : ∀ x ∈ szs, x ≠ 127 ∧ x ≠ 0) (hl : Lst X l (vs ++ [.int 0 t0])) (hN : 0 < N)
    (V : Ev env L gN [] ["CHAR_MAX"]) (hco : env.scope.isCoroutine = false) (Rm : Room A 6 110) (S : St mg mb X s.heap [(L, grpF0 l)]) :
    ∃ xs, (∀ b ∈ xs, s.heap.get? b = none) ∧ Seg (model prog w) A.in1 (Rp (L :: xs)) (Yp mg mb X (L :: xs) (grpOB l L vs xs) (grpP szs) N False) N s (.func (defAt 7).body env) ((model prog w).den (.func (defAt 7).body env)) [] s := by
  have fr : ∀ b ∈ [s.heap.objs.size], s.heap.get? b = none := fun b hb => no_size (by simp at hb; omega)
  refine ⟨[s.heap.objs.size], fr, ?_⟩
  have Rm0 : Room (A.in1.over (.func (defAt 7).body env) []) 2 80 := over_room (A := A.in1) (m := 1) (m' := 3) ((Rm.le (Nat.le_refl 6) (show 93 + 1 ≤ 110 by omega)).in1.le (by omega) (by omega)) rfl (Nat.le_refl _) (Nat.le_refl _)
  obtain ⟨S₀, hXs⟩ := S.maxA [L, s.heap.objs.size] (by simp) (fun b hb => by
    rcases List.mem_cons.mp hb with rfl | hb
    · exact .inl (by simp)
    · exact .inr (fr b hb))
  have hLs : L < s.heap.objs.size := by obtain ⟨o, ho, _⟩ := S.at 0 rfl; exact Heap.lt_size ho
  generalize hn : s.heap.objs.size = n at *
  refine seg_func ?_
  refine seg_execs_cons (seg_w fun E => wpAny_Assign_Name (Constant_none (stlz 0 1 S₀ V rfl rfl fun h₁ S₁ z₁ => ?_)))
  change St mg mb _ h₁ [(L, nsP gN [some (.ref l), some .none, none])] at S₁
  have hz : h₁.objs.size = n := z₁.trans hn
  have hlB := hl.mono hXs
  have hL₁ := (hlB.mono S₁.hp).isList
  refine seg_execs_cons (seg_for fun E => ?_)
  refine ldl 0 0 S₁ V rfl rfl rfl ?_
  refine wpAny_pyIter_list hL₁ ?_
  have hk : ∀ b o, h₁.get? b = some o → (h₁.push { cls := .type "list_iterator", data := .fields #[.ref l, .int 0 0] }).get? b = some o := fun b o e => Heap.get?_push_of_some _ e
  intro k hkk p
  show Seg _ _ _ _ _ _ (.forLoop _ (.ref h₁.objs.size) _ _ _) _ _ _
  have hit : (h₁.push { cls := .type "list_iterator", data := .fields #[.ref l, .int 0 0] }).IsListIter n l 0 := by rw [← hz]; exact ⟨_, Heap.get?_push_size _ rfl, rfl, rfl⟩
  rw [hz]
  have S₂ : St mg mb (MxA [L, n] s.heap) (h₁.push { cls := .type "list_iterator", data := .fields #[.ref l, .int 0 0] }) [(L, nsP gN [some (.ref l), some .none, none]), (n, litP l 0)] := by
    refine ⟨S₁.wd, fun b o e => hk b o (S₁.keep b o e), fun q hq => ?_, ?_⟩
    · rcases List.mem_cons.mp hq with rfl | hq
      · exact ⟨(S₁.at 0 rfl).keep fun o => hk L o, fun o e => e.2 (by simp)⟩
      · rw [List.mem_singleton.mp hq]
        exact ⟨hit, fun o e => e.2 (by simp)⟩
    · show ([L, n] : List Addr).Nodup
      have a2 : L ≠ n := Nat.ne_of_lt hLs
      simp [a2]
  exact grp_loop (A := A.in1) hvs hne hok hl V hco (S.sub (List.nil_sublist _)) ((Rm.le (Nat.le_refl 6) (show 105 + 1 ≤ 110 by omega)).in1.le (by omega) (by omega)) rfl N 0 hN (Nat.zero_le _) (by omega) .none (.inl rfl) s _ hXs S₂ rfl rfl

theorem grp_call {l : Addr} {a : Addr} {R : Result → Shared → Prop} (W : Wd mg mb s.heap) (ha : mg (defAt 7).name = some (.ref a)) (Rm : Room A 5 100)
    (h : ∀ (s' : Shared) (L I : Addr) (env : Env), (∀ b o, s.heap.get? b = some o → s'.heap.get? b = some o) → s'.os = s.os → s'.gens = s.gens.push (.fresh (.func (defAt 7).body env)) → s.heap.get? L = none → s.heap.get? I = none → L ≠ I →
      At s'.heap L (grpF0 l) → At s'.heap I (genP s.gens.size) → Ev env L gN [] ["CHAR_MAX"] → env.scope.isCoroutine = false → R (.ok (.ret (.ref I))) s') :
    codeAny (model prog w) A (.call (.ref a) ⟨[.ref l], []⟩) R s := by
  obtain ⟨a', o, pm, code, doc, h1, h2, h3, h4⟩ := W.fn 7 (by decide)
  rw [ha] at h1
  cases h1
  refine codeAny_call_generator (by have := Rm.hd; omega) h2 h3 rfl rfl rfl h4 ?_
  refine wpAny_of_eq (a := [(("grouping" : Str), Value.ref l)]) rfl ?_
  refine wpAny_newFunctionEnv (show ∀ x ∈ (defAt 7).scope.names, x.2 ≠ .cell by decide +kernel) (by intro x hx; simp at hx; subst hx; rfl) fun h' hn hs => ?_
  have hk : ∀ b o, s.heap.get? b = some o → h'.get? b = some o := fun b o e => hs.extBut b o (Nat.ne_of_lt (Heap.lt_size e)) (Heap.get?_push_of_some _ e)
  have hz : h'.objs.size = s.heap.objs.size + 1 := by rw [hs.1, Heap.size_push]
  refine ⟨W.nolimit.keeps hk, ?_⟩
  have hV : Ev (newEnv (docDef (defAt 7).name (defAt 7).params (defAt 7).body (defAt 7).scope pm code doc).scope s.heap.objs.size (docDef (defAt 7).name (defAt 7).params (defAt 7).body (defAt 7).scope pm code doc).globals [] ((docDef (defAt 7).name (defAt 7).params (defAt 7).body (defAt 7).scope pm code doc).qualname ++ ".<locals>.") (some a) (docDef (defAt 7).name (defAt 7).params (defAt 7).body (defAt 7).scope pm code doc).code none (docDef (defAt 7).name (defAt 7).params (defAt 7).body (defAt 7).scope pm code doc).builtins) s.heap.objs.size gN [] ["CHAR_MAX"] :=
    ev_of (nm := (defAt 7).name) (sc := (defAt 7).scope) (L := s.heap.objs.size) (a := a) (cd := code) (by decide +kernel)
  refine h _ s.heap.objs.size h'.objs.size _ (fun b o e => Heap.get?_push_of_some _ (hk b o e)) rfl rfl (no_size (Nat.le_refl _)) (no_size (by rw [hz]; exact Nat.le_succ _)) (by rw [hz]; exact (Nat.succ_ne_self _).symm) ?_ ⟨_, Heap.get?_push_size _ rfl, _, _, rfl, rfl, rfl⟩ hV rfl
  obtain ⟨o', ho', hp'⟩ : At h' s.heap.objs.size (grpF0 l) := At.of_ns hn fun i x v hi hv => by
    rcases i with _ | i
    · simp at hi hv; subst hi; subst hv; rfl
    · rcases i with _ | _ | i <;> simp at hv
  exact ⟨o', Heap.get?_push_of_some _ ho', hp'⟩

/-- a for over the intervals, left before the last -/
theorem grp_go {szs : List Int} {vs : List Value} {t0 : Tok} {l a : Addr} {N : Nat} {target : PySem.Expr} {body : List Stmt} {env : Env} {R : Result → Shared → Prop} (hvs : IntsAre vs szs) (hne : szs ≠ []) (hok : ∀ x ∈ szs, x ≠ 127 ∧ x ≠ 0) (hl : Lst B l (vs ++ [.int 0 t0])) (hN : 0 < N)
    (ha : mg (defAt 7).name = some (.ref a)) (Rm : Room A 7 120) (S : St mg mb B s.heap ob) (Inv : Nat → Ob → Rl → Prop) (h0 : Inv 0 ob B) (hmono : ∀ i ob X Y, Sub X Y → Inv i ob X → Inv i ob Y) (hend : ∀ ob X, ¬ Inv N ob X)
    (turn : ∀ wr i v B' ob₁ s₁ E, i < N → Inv i ob₁ B' → Sub B B' → St mg mb B' s₁.heap (ob₁ ++ keepers wr s₁.heap) → grpP szs i v B' → Side s s₁ → ob₁.map (·.1) = ob.map (·.1) →
      wpAny (model prog w) A (assign target env v) (fun _ s₂ => wpAny (model prog w) A (execs body env) (Post R (Turned mg mb Inv ob wr i B' s₁)) E s₂) E s₁) :
    codeAny (model prog w) A (.call (.ref a) ⟨[.ref l], []⟩) (RetQ (fun x s₁ => wpAny (model prog w) A (pyIter x) (fun it s₂ => codeAny (model prog w) A (.forLoop target it body [] env) R s₂) E s₁) E) s := by
  refine grp_call S.w ha (Rm.le (by omega) (by omega)) fun s' Lg I envg hk hos hg hLn hIn hLI hL hI Vg hco => ?_
  have S₁ : St mg mb B s'.heap ((ob ++ [(Lg, grpF0 l)]) ++ [(I, genP s.gens.size)]) := by
    refine ⟨S.wd, fun b o e => hk b o (S.keep b o e), fun p hp => ?_, ?_⟩
    · rcases List.mem_append.mp hp with hp | hp
      · rcases List.mem_append.mp hp with hp | hp
        · exact ⟨(S.own p hp).1.keep fun o => hk _ o, (S.own p hp).2⟩
        · cases List.mem_singleton.mp hp
          exact ⟨hL, fun o e => by have := S.keep _ _ e; rw [hLn] at this; cases this⟩
      · cases List.mem_singleton.mp hp
        exact ⟨hI, fun o e => by have := S.keep _ _ e; rw [hIn] at this; cases this⟩
    · have n1 : ∀ x, s.heap.get? x = none → x ∉ ob.map (·.1) := fun x hx hm => by obtain ⟨o, ho⟩ := S.there hm; rw [hx] at ho; cases ho
      rw [List.append_assoc, List.map_append, List.nodup_append]
      refine ⟨S.dis, by simp [hLI], fun x hx y hy e => ?_⟩
      subst e
      simp at hy
      rcases hy with rfl | rfl
      · exact n1 _ hLn hx
      · exact n1 _ hIn hx
  obtain ⟨S₂, hB₂, hab⟩ := S₁.absorb
  have hI₂ := hab I _ (List.mem_singleton.mpr rfl)
  generalize Mx (ob ++ [(Lg, grpF0 l)]) s'.heap = B₂ at S₂ hB₂ hI₂
  have S₃ := S₂.sub (List.sublist_append_left _ _)
  have SL : St mg mb B₂ s'.heap [(Lg, grpF0 l)] := S₂.sub (List.sublist_append_right _ _)
  have hLg : (∀ o, ¬ B₂ Lg o) ∧ Lg ∉ ob.map (·.1) := ⟨SL.off 0 rfl, fun hm => by obtain ⟨o, ho⟩ := S.there hm; rw [hLn] at ho; cases ho⟩
  have hgs : s'.gens[s.gens.size]? = some (.fresh (.func (defAt 7).body envg)) := by rw [hg]; simp
  have sd : Side s s' := by
    refine ⟨hos, fun i x e => ?_, fun hb => ?_⟩
    · rw [hg, Array.getElem?_push]
      have hlt : i < s.gens.size := (Array.getElem?_eq_some_iff.mp e).1
      rw [if_neg (by omega)]; exact e
    · rw [hg]; exact hb.push rfl
  have hlB := hl.mono hB₂
  have first : ∀ s₁ : Shared, St mg mb B₂ s₁.heap [(Lg, grpF0 l)] → ∃ xs, (∀ b ∈ xs, s₁.heap.get? b = none) ∧ Seg (model prog w) A.in1 (Rp (Lg :: xs)) (Yp mg mb B₂ (Lg :: xs) (grpOB l Lg vs xs) (grpP szs) N False) N s₁ (.func (defAt 7).body envg) ((model prog w).den (.func (defAt 7).body envg)) [] s₁ :=
    fun s₁ S₁ => grp_first hvs hne hok hlB hN Vg hco (Rm.le (by omega) (by omega)) S₁
  have hroom : A.depth < recursionLimit := by have := Rm.hd; omega
  have hgen : s'.heap.IsGen I s.gens.size := let ⟨o, nm, qn, h1, h2, h3, h4⟩ : ∃ o nm qn, s'.heap.get? I = some o ∧ _ ∧ _ ∧ _ := let ⟨o, ho, nm, qn, h⟩ := hI₂; ⟨o, nm, qn, S₂.keep _ _ ho, h⟩; ⟨o, nm, qn, h1, h2, h3, h4⟩
  show wpAny _ A (pyIter (.ref I)) _ _ s'
  refine wpAny_pyIter_gen hgen ?_
  refine for_g (wr := [Lg]) (n := N) (WkG.gen (OB := grpOB l Lg vs) (P := grpP szs) (N := N) (fin := False) Rm.hh hroom hI₂ (.inr hN) (fun xs i => grpOB_fst _ _ _ _ _)
    (fun i v X Y k h => h) (fun v s Q E hg h => letGo_gen hg h) first) s (Sub.refl _) S₃ (fun b hb => by rw [List.mem_singleton.mp hb]; exact hLg) sd
    (fun g hg => by rw [List.mem_singleton.mp hg]; simp) (.inl ⟨rfl, rfl, SL, hgs⟩) Inv (hmono _ _ _ _ hB₂ h0) hmono
    (fun wr i v B' ob₁ s₁ E a b c d e f g => turn wr i v B' ob₁ s₁ E a b (hB₂.trans c) d e f g) (fun E wr ob' B' s₁ a => absurd a (hend _ _))
end
end Mine
end
/-! ## F19 -/
section
set_option maxRecDepth 100000
set_option maxHeartbeats 4000000
open PySem PySem.Calls PySem.W PyProof.Rows
namespace Mine
/-- lists of lists of ints -/
def RowsR (X : Rl) (vs : List Value) (ps : List (List Int)) : Prop := vs.length = ps.length ∧ ∀ (j : Nat) (p : List Int), ps[j]? = some p → ∃ a, vs[j]? = some (.ref a) ∧ Ints X a p
theorem RowsR.mono {X Y : Rl} {vs : List Value} {ps : List (List Int)} (h : RowsR X vs ps) (k : Sub X Y) : RowsR Y vs ps := ⟨h.1, fun j p hp => let ⟨a, h1, h2⟩ := h.2 j p hp; ⟨a, h1, h2.mono k⟩⟩
theorem RowsR.nil (X : Rl) : RowsR X [] [] := ⟨rfl, fun j p h => by simp at h⟩
theorem RowsR.snoc {X : Rl} {vs : List Value} {ps : List (List Int)} {a : Addr} {p : List Int} (h : RowsR X vs ps) (hp : Ints X a p) : RowsR X (vs ++ [.ref a]) (ps ++ [p]) := by
  refine ⟨by simp [h.1], fun j q hq => ?_⟩
  by_cases hj : j < ps.length
  · rw [List.getElem?_append_left hj] at hq
    obtain ⟨b, h1, h2⟩ := h.2 j q hq
    exact ⟨b, by rw [List.getElem?_append_left (by rw [h.1]; exact hj)]; exact h1, h2⟩
  · have e : j = ps.length := by
      have := (List.getElem?_eq_some_iff.mp hq).1
      simp at this; omega
    subst e
    have hq' : q = p := by simpa using hq.symm
    subst hq'
    exact ⟨a, by rw [← h.1]; simp, hp⟩
def ListsAt (X : Rl) (l : Addr) (ps : List (List Int)) : Prop := ∃ vs, Lst X l vs ∧ RowsR X vs ps
theorem ListsAt.mono {X Y : Rl} {l : Addr} {ps : List (List Int)} (h : ListsAt X l ps) (k : Sub X Y) : ListsAt Y l ps := let ⟨vs, h1, h2⟩ := h; ⟨vs, h1.mono k, h2.mono k⟩

section
variable {prog : Program} {w : World} {A : Around} {E : Value → Shared → Prop} {s : Shared} {mg mb : Str → Option Value} {B : Rl} {ob : Ob} {env : Env}
theorem itemNeg_ {l : Addr} {xs : List Value} {x : Value} {k : Nat} {t : Tok} {value slice : PySem.Expr} {Q : Value → Shared → Prop} (hl : s.heap.IsList l xs.toArray) (hk : 1 ≤ k) (hkl : k ≤ xs.length) (hs2 : xs.length ≤ 16777216) (hx : xs[xs.length - k]? = some x) (h : Q x s)
    (hs : subscripted slice false (.ref l) (.int (-(k : Int)) t) = operate [.ref l, .int (-(k : Int)) t] (getItem (.ref l) (.int (-(k : Int)) t)) := by with_unfolding_all rfl) (hg : ∀ r, letTemporaryGo value (.ref l) r = pure () := by intro _; with_unfolding_all rfl) :
    wpAny (model prog w) A (subscriptTail value slice (.ref l) (.int (-(k : Int)) t)) Q E s := by
  refine subscriptTail_builtin hl.typeIs slot_list_getitem.lookup (wpAny_getItem_list_neg hl (by omega) (by simp; omega) (by omega) ?_ h) hs hg
  have e : (-(k : Int) + (xs.toArray.size : Int)).toNat = xs.length - k := by simp; omega
  rw [e]; simpa using hx
/-- a list display of one item -/
theorem one_ {e : PySem.Expr} {pos : Pos} {Q : Value → Shared → Prop}
    (h : wpAny (model prog w) A (eval e env) (fun v s₁ => ∃ B ob, St mg mb B s₁.heap ob ∧ ∀ D h', St mg mb B h' (ob ++ [(D, listP [v])]) → Q (.ref D) { s₁ with heap := h' }) E s)
    (he₁ : backTo pos (starEach [e] env) = [(false, eval e env)] := by rfl) : wpAny (model prog w) A (eval (.List [e] pos) env) Q E s := by
  refine wpAny_List_spliced ?_
  rw [he₁]
  refine spliced_cons (wpAny_mono h (fun v s₁ h₁ => spliced_nil ⟨by rw [sizeLine_eq]; show 1 ≤ 16777216; decide, ?_⟩) fun _ _ e => e)
  obtain ⟨B, ob, S, hQ⟩ := h₁
  exact hQ _ _ (S.push (listP [v]) ⟨rfl, rfl, 0, rfl⟩)

theorem grpV_dropLast {cur : List Int} {x : Int} (h1 : cur[cur.length - 1]? = some x) (h2 : cur[cur.length - 2]? = some x) (hl : 2 ≤ cur.length) (i : Nat) : grpV cur.dropLast i = grpV cur i := by
  have hd : cur.dropLast = cur.take (cur.length - 1) := List.dropLast_eq_take
  have hlast : cur.dropLast.getLast? = some x := by
    rw [List.getLast?_eq_getElem?, hd, List.length_take, List.getElem?_take]
    have e : min (cur.length - 1) cur.length - 1 = cur.length - 2 := by omega
    rw [e, if_pos (by omega), h2]
  have hlast' : cur.getLast? = some x := by rw [List.getLast?_eq_getElem?]; exact h1
  have hdl : cur.dropLast.length = cur.length - 1 := by simp
  by_cases hi : i < cur.length - 1
  · have : cur.dropLast[i]? = cur[i]? := by rw [hd, List.getElem?_take, if_pos hi]
    simp [grpV, this, hlast, hlast']
  · rw [grpV_ge (by omega) hlast]
    by_cases hi2 : i = cur.length - 1
    · subst hi2; rw [grpV_lt h1]
    · rw [grpV_ge (by omega) hlast']

abbrev cN : List Str := ["units", "sizes", "pieces", "place", "size"]
theorem cut_ok {us szs : List Int} {parts : List (List Int)} {lu ls a : Addr} {R : Result → Shared → Prop} (W : Wd mg mb s.heap) (ha : mg (defAt 14).name = some (.ref a)) (hu : Ints (Hp s.heap) lu us) (hsz : Ints (Hp s.heap) ls szs)
    (hus : us = parts.flatten) (hszs : szs = parts.map fun p => (p.length : Int)) (hne : parts ≠ []) (hpl : ∀ p ∈ parts, p ≠ [] ∧ p.length ≤ 100) (hlen : parts.length ≤ 100) (Rm : Room A 10 150)
    (h : ∀ s' r, Goes s s' → ListsAt (New s s' []) r parts → R (.ok (.ret (.ref r))) s') : codeAny (model prog w) A (.call (.ref a) ⟨[.ref lu, .ref ls], []⟩) R s := by
  refine enter (d := 8) (u := 140) 14 (by decide) ["units", "sizes"] ["pieces", "place", "size"] ["len", "_grouping_intervals"] W ha (Rm.le (by omega) (by omega)) (by decide +kernel) (fun _ _ _ => rfl) rfl rfl ?_
  intro L h₁ tk env A' E V Rm' S
  change Ev env L cN [] _ at V
  change St mg mb _ h₁ [(L, nsP cN [some (.ref lu), some (.ref ls), none, none, none])] at S
  have hszn : szs ≠ [] := by rw [hszs]; simpa using hne
  have hszl : szs.length = parts.length := by rw [hszs]; simp
  have hok : ∀ x ∈ szs, x ≠ 127 ∧ x ≠ 0 := by
    intro x hx
    rw [hszs] at hx
    obtain ⟨p, hp, rfl⟩ := List.mem_map.mp hx
    obtain ⟨h1, h2⟩ := hpl p hp
    have := List.length_pos_iff.mpr h1
    omega
  have hfl : ∀ l : List (List Int), (∀ p ∈ l, p.length ≤ 100) → l.flatten.length ≤ 100 * l.length := by
    intro l
    induction l with
    | nil => simp
    | cons p r ih =>
      intro hp
      have h1 := ih fun q hq => hp q (.tail _ hq)
      have h2 := hp p (.head _)
      simp only [List.flatten_cons, List.length_append, List.length_cons]; omega
  have hul : us.length ≤ 10000 := by have := hfl parts fun p hp => (hpl p hp).2; rw [hus]; omega
  -- the loop that takes like ones off the end
  refine wpAny_execs_cons (wpAny_While (while_ (fun k s' => ∃ cur lcur B', k = cur.length ∧ cur.length ≤ szs.length ∧ St mg mb B' s'.heap [(L, nsP cN [some (.ref lu), some (.ref lcur), none, none, none])] ∧ Sub (Hp s.heap) B' ∧
    Ints B' lcur cur ∧ cur ≠ [] ∧ (∀ x ∈ cur, x ∈ szs) ∧ (∀ i, grpV cur i = grpV szs i) ∧ Side s s') ?_ szs.length
    ⟨szs, ls, _, rfl, Nat.le_refl _, S, Sub.refl _, hsz, hszn, fun _ h => h, fun _ => rfl, Side.refl s⟩))
  rintro k s₁ ⟨cur, lcur, B₁, rfl, hcl, S₁, hB₁, ⟨vc, hvc, hic⟩, hcne, hcs, hcg, sd₁⟩ E₁
  have hvl : vc.length = cur.length := hic.length
  have hcl' : cur.length ≤ 100 := by omega
  -- what comes after the loop
  have after : ∀ (tk₂ : Nat) (E₂ : Value → Shared → Prop), wpAny (model prog w) A' (execs ((defAt 14).body.drop 1) env) (fun f s' => R (.ok (.ret (retOf f))) s') E₂ { s₁ with toks := tk₂ } := by
    intro tk₂ E₂
    refine wpAny_execs_cons (wpAny_Assign_Name (nil_ S₁ fun lp h₂ S₂ => stl 0 2 S₂ V rfl rfl fun h₃ S₃ => ?_))
    refine wpAny_execs_cons (wpAny_Assign_Name (wpAny_Constant_int (stl 0 3 S₃ V rfl rfl fun h₄ S₄ => ?_)))
    change St mg mb B₁ h₄ [(L, nsP cN [some (.ref lu), some (.ref lcur), some (.ref lp), some (.int 0 _), none]), (lp, listP [])] at S₄
    have hlcN : s.heap.get? lp = none := S₄.new hB₁ 1 rfl
    refine wpAny_execs_cons (wpAny_For ?_)
    refine call1 7 (by decide) S₄ V rfl (by decide) fun a₂ ha₂ => ?_
    refine wpAny_BinOp (ldl 0 1 S₄ V rfl rfl rfl (one_ (mg := mg) (mb := mb) (wpAny_Constant_int ⟨_, _, S₄, fun l0 h₅ S₅ => ?_⟩)))
    refine addL_ S₅ (hvc.mono S₅.hp).isList (S₅.at 2 rfl).isList (by simp; omega) fun lg h₆ S₆ => ?_
    obtain ⟨S₇, hB₇, hab⟩ := St.absorb (ob := [(L, nsP cN [some (.ref lu), none, some (.ref lp), some (.int (((parts.take 0).flatten.length : Nat) : Int) _), none]), (lp, listP [])]) (tl := [(l0, _), (lg, _)]) (S₆.wk 0 rfl (nsP.weak ⟨.inr rfl, .inl rfl, .inr rfl, .inr rfl, .inl rfl, trivial⟩))
    obtain ⟨og, hog, hpg⟩ := hab lg _ (.tail _ (.head _))
    refine ⟨S₇.w, grp_go (N := parts.length + 1) hic hcne (fun x hx => hok x (hcs x hx)) ⟨og, hog, hpg⟩ (Nat.succ_pos _) ha₂ (Rm'.le (by omega) (by omega)) S₇
      (fun i ob X => i ≤ parts.length ∧ ∃ t vs, ob = [(L, nsP cN [some (.ref lu), none, some (.ref lp), some (.int (((parts.take i).flatten.length : Nat) : Int) t), none]), (lp, listP vs)] ∧ RowsR (Rs X s.heap []) vs (parts.take i))
      ⟨Nat.zero_le _, _, [], rfl, RowsR.nil _⟩ (fun i ob X Y k ⟨h1, t, vs, h2, h3⟩ => ⟨h1, t, vs, h2, h3.mono (Rs.mono k)⟩) (fun ob X h => absurd h.1 (by omega)) ?_⟩
    rintro wr i v B₈ ob₈ s₈ E₈ hi ⟨hip, t, vs, rfl, hrows⟩ hB₈ S₈ ⟨tv, rfl⟩ sd₈ hadr
    have hHB : Sub (Hp s.heap) B₈ := (hB₁.trans hB₇).trans hB₈
    obtain ⟨vu, hvu, hiu⟩ := hu.mono hHB
    have hvul : vu.length = us.length := hiu.length
    change St mg mb B₈ s₈.heap ([(L, nsP cN [some (.ref lu), none, some (.ref lp), some (.int (((parts.take i).flatten.length : Nat) : Int) t), none]), (lp, listP vs)] ++ keepers wr s₈.heap) at S₈
    refine assign_Name (stl 0 4 S₈ V rfl rfl fun h₉ S₉ => ?_)
    change St mg mb B₈ h₉ ([(L, nsP cN [some (.ref lu), none, some (.ref lp), some (.int (((parts.take i).flatten.length : Nat) : Int) t), some (.int (grpV cur i) tv)]), (lp, listP vs)] ++ keepers wr s₈.heap) at S₉
    refine wpAny_execs_cons (wpAny_If (wpAny_isTrue_Compare1 (ldl 0 3 S₉ V rfl rfl rfl (bcall1 (id := "len") S₉ V (by decide) (by decide) (by rfl) (ldl 0 0 S₉ V rfl rfl rfl (lenL_ (hvu.mono S₉.hp).isList (by omega) fun t₂ tk₂ => P.ge_int (wpAny_truthy_bool ?_)))))))
    rw [hvul]
    by_cases hend : i = parts.length
    · have hpl2 : (parts.take i).flatten.length = us.length := by rw [hend, List.take_length, hus]
      rw [decide_eq_true (by rw [hpl2]; exact Int.le_refl _)]
      simp only [if_true]
      refine wpAny_execs_cons (wpAny_Break ?_)
      show wpAny _ _ (execs ((defAt 14).body.drop 4) env) _ _ _
      have S₁₀ : St mg mb B₈ h₉ [(L, nsP cN [some (.ref lu), none, some (.ref lp), some (.int (((parts.take i).flatten.length : Nat) : Int) t), some (.int (grpV cur i) tv)]), (lp, listP vs)] := S₉.sub (List.sublist_append_left _ _)
      refine wpAny_execs_cons (wpAny_Return_some (ldl 0 2 S₁₀ V rfl rfl rfl ?_))
      rw [hend, List.take_length] at hrows
      obtain ⟨o, ho, hp⟩ := S₁₀.at 1 rfl
      exact h _ lp ⟨fun b o e => S₁₀.keep b o (hHB b o e), (sd₁.trans (Side.refl _)).trans sd₈⟩ ⟨vs, ⟨o, ⟨ho, .inl hlcN⟩, hp⟩, hrows.mono fun b o e => ⟨S₁₀.keep b o e.1, e.2⟩⟩
    · have hilt : i < parts.length := by omega
      obtain ⟨p, hp⟩ : ∃ p, parts[i]? = some p := ⟨_, List.getElem?_eq_getElem hilt⟩
      obtain ⟨hpn, hp100⟩ := hpl p (List.mem_of_getElem? hp)
      have hp0 := List.length_pos_iff.mpr hpn
      have hsplit : parts = parts.take i ++ p :: parts.drop (i + 1) := by
        obtain ⟨hl, rfl⟩ := List.getElem?_eq_some_iff.mp hp
        rw [List.getElem_cons_drop]; simp
      have hfl2 : parts.flatten = (parts.take i).flatten ++ (p ++ (parts.drop (i + 1)).flatten) := (congrArg List.flatten hsplit).trans (by rw [List.flatten_append, List.flatten_cons])
      have hfle : us.length = (parts.take i).flatten.length + (p.length + (parts.drop (i + 1)).flatten.length) := by
        rw [hus]
        exact (congrArg List.length hfl2).trans (by rw [List.length_append, List.length_append])
      have hgv : grpV cur i = (p.length : Int) := by
        rw [hcg i, grpV_lt (n := (p.length : Int))]
        rw [hszs, List.getElem?_map, hp]; rfl
      have hslice : (us.drop (parts.take i).flatten.length).take p.length = p := by
        rw [hus]
        refine (congrArg (fun l => (l.drop (parts.take i).flatten.length).take p.length) hfl2).trans ?_
        show (((parts.take i).flatten ++ (p ++ (parts.drop (i + 1)).flatten)).drop (parts.take i).flatten.length).take p.length = p
        rw [List.drop_left, List.take_left]
      rw [decide_eq_false (by omega)]
      simp only [Bool.false_eq_true, if_false]
      refine wpAny_execs_nil ?_
      refine wpAny_execs_cons (appendS_ (ldl 0 2 S₉ V rfl rfl rfl ⟨lp, vs, rfl, S₉.at 1 rfl, slice_ (mg := mg) (mb := mb) (ldl 0 0 S₉ V rfl rfl rfl (ldl 0 3 S₉ V rfl rfl rfl (wpAny_BinOp (ldl 0 3 S₉ V rfl rfl rfl (ldl 0 4 S₉ V rfl rfl rfl (add_int ⟨lu, vu, _, _, rfl, (hvu.mono S₉.hp).isList, by omega, .int _ _, .int _ _, _, _, S₉, fun D h₁₀ S₁₀ => ?_⟩)))))) ⟩) rfl (by unfold interactive; rw [V.kind]; rfl) rfl rfl rfl rfl)
      have hpick : (slicePick vu.toArray (some (((parts.take i).flatten.length : Nat) : Int)) (some ((((parts.take i).flatten.length : Nat) : Int) + grpV cur i)) none).toList = (vu.drop (parts.take i).flatten.length).take p.length := by
        have e : (((parts.take i).flatten.length : Nat) : Int) + grpV cur i = (((parts.take i).flatten.length + p.length : Nat) : Int) := by rw [hgv]; push_cast; rfl
        rw [e, pickBoth]
        congr 1; omega
      rw [hpick] at S₁₀
      have hD : IntsAre ((vu.drop (parts.take i).flatten.length).take p.length) p := by
        have := (hiu.drop (parts.take i).flatten.length).take p.length
        rw [hslice] at this
        exact this
      have fD : s.heap.get? D = none := fresh_of hHB (S₁₀.own (D, _) (List.mem_append_right _ (.head _))).2
      refine append_ 1 S₁₀ rfl (by rw [sizeLine_eq, hrows.1, List.length_take]; omega) fun h₁₁ S₁₁ => ?_
      refine wpAny_execs_cons (wpAny_AugAssign_Name (ldl' 0 3 S₁₁ V rfl rfl rfl (ldl 0 4 S₁₁ V rfl rfl rfl (iadd_int (stl 0 3 S₁₁ V rfl rfl fun h₁₂ S₁₂ => wpAny_execs_nil ?_)))))
      have S₁₂' := S₁₂.wk 0 rfl (nsP.weak (lv' := [some (.ref lu), none, some (.ref lp), some (.int ((((parts.take i).flatten.length : Nat) : Int) + grpV cur i) _), none]) ⟨.inr rfl, .inr rfl, .inr rfl, .inr rfl, .inl rfl, trivial⟩)
      obtain ⟨S₁₃, hB₁₃, hab₁₃⟩ := St.absorb (ob := [(L, nsP cN [some (.ref lu), none, some (.ref lp), some (.int ((((parts.take i).flatten.length : Nat) : Int) + grpV cur i) _), none]), (lp, listP (vs ++ [.ref D]))] ++ keepers wr s₈.heap) (tl := [(D, listP ((vu.drop (parts.take i).flatten.length).take p.length))]) S₁₂'
      obtain ⟨oD, hoD, hpD⟩ := hab₁₃ D _ (.head _)
      have etake : parts.take (i + 1) = parts.take i ++ [p] := by rw [List.take_add_one, hp]; rfl
      have epl : (((parts.take i).flatten.length : Nat) : Int) + grpV cur i = (((parts.take (i + 1)).flatten.length : Nat) : Int) := by rw [hgv, etake]; simp
      refine ⟨_, _, ⟨hilt, _, vs ++ [.ref D], rfl, ?_⟩, rfl, hB₁₃, by rw [← epl]; exact S₁₃, Side.refl _⟩
      rw [etake]
      exact (hrows.mono (Rs.mono hB₁₃)).snoc ⟨_, ⟨oD, ⟨hoD, .inl fD⟩, hpD⟩, hD⟩
  by_cases hbig : 1 < cur.length
  · refine isTrue_and (wpAny_isTrue_Compare1 (bcall1 (id := "len") S₁ V (by decide) (by decide) (by rfl) (ldl 0 1 S₁ V rfl rfl rfl (lenL_ (hvc.mono S₁.hp).isList (by omega) fun t₂ tk₂ => wpAny_Constant_int (gt_int (wpAny_truthy_bool ?_))))))
    rw [hvl, decide_eq_true (by omega)]
    simp only [if_true]
    obtain ⟨x, hx⟩ : ∃ x, cur[cur.length - 1]? = some x := ⟨_, List.getElem?_eq_getElem (by omega)⟩
    obtain ⟨y, hy⟩ : ∃ y, cur[cur.length - 2]? = some y := ⟨_, List.getElem?_eq_getElem (by omega)⟩
    obtain ⟨tx, hvx⟩ := hic.get _ _ hx
    obtain ⟨ty, hvy⟩ := hic.get _ _ hy
    refine isTrue_and (wpAny_isTrue_Compare1 (Subscript_ (ldl 0 1 S₁ V rfl rfl rfl (UnaryOp_ (wpAny_Constant_int (P.neg_int (itemNeg_ (k := 1) (x := .int x tx) (hvc.mono S₁.hp).isList (by omega) (by omega) (by omega) (by rw [hvl]; exact hvx) (Subscript_ (ldl 0 1 S₁ V rfl rfl rfl (UnaryOp_ (wpAny_Constant_int (P.neg_int (itemNeg_ (k := 2) (x := .int y ty) (hvc.mono S₁.hp).isList (by omega) (by omega) (by omega) (by rw [hvl]; exact hvy) (eq_int (wpAny_truthy_bool ?_)))))))))))))))
    by_cases hxy : x = y
    · subst hxy
      simp only [beq_self_eq_true, if_true]
      refine isTrue_and_nil ?_
      simp only [if_true]
      refine wpAny_execs_cons (wpAny_Assign_Name (slice_ (mg := mg) (mb := mb) (ldl 0 1 S₁ V rfl rfl rfl (wpAny_pure (UnaryOp_ (wpAny_Constant_int (P.neg_int ⟨lcur, vc, _, _, rfl, (hvc.mono S₁.hp).isList, by omega, .none, .int _ _, _, _, S₁, fun D h₂ S₂ => stl 0 1 S₂ V rfl rfl fun h₃ S₃ => wpAny_execs_nil ?_⟩)))))))
      obtain ⟨S₄, hB₄, hab⟩ := St.absorb (ob := [(L, nsP cN [some (.ref lu), some (.ref D), none, none, none])]) (tl := [(D, listP _)]) S₃
      obtain ⟨oD, hoD, hpD⟩ := hab D _ (.head _)
      rw [pickButLast] at hpD
      have hdl : IntsAre vc.dropLast cur.dropLast := by
        rw [List.dropLast_eq_take, List.dropLast_eq_take, hvl]
        exact hic.take _
      exact ⟨cur.dropLast.length, by simp; omega, cur.dropLast, D, _, rfl, by simp; omega, S₄, hB₁.trans hB₄, ⟨_, ⟨oD, hoD, hpD⟩, hdl⟩, by
        intro e
        have := congrArg List.length e
        simp at this; omega, fun z hz => hcs z ((List.dropLast_sublist _).subset hz), fun i => (grpV_dropLast hx hy (by omega) i).trans (hcg i), sd₁⟩
    · have e : (x == y) = false := by simpa using hxy
      rw [e]
      simp only [Bool.false_eq_true, if_false]
      exact after _ _
  · refine isTrue_and (wpAny_isTrue_Compare1 (bcall1 (id := "len") S₁ V (by decide) (by decide) (by rfl) (ldl 0 1 S₁ V rfl rfl rfl (lenL_ (hvc.mono S₁.hp).isList (by omega) fun t₂ tk₂ => wpAny_Constant_int (gt_int (wpAny_truthy_bool ?_))))))
    rw [hvl, decide_eq_false (by omega)]
    simp only [Bool.false_eq_true, if_false]
    exact after _ _
end
end Mine
end
/-! ## F20 -/
section
set_option maxRecDepth 100000
set_option maxHeartbeats 4000000
open PySem PySem.Calls PySem.W PyProof.Rows
open PySem.SeqAt PySem.MeetsSeq
namespace Mine
def ltP (a b : Int × Int) : Bool := decide (a.1 < b.1 ∨ (a.1 = b.1 ∧ a.2 < b.2))
theorem ltPair_meets (T T' : Addr) (n n2 : Nat) (dd dd2 : Option Addr) (sl sl2 : Array (Option Value)) (a b c d : Int) (t₁ t₂ t₃ t₄ : Tok) :
    Meets (Builtin.«tuple.__lt__» ⟨[.ref T, .ref T'], []⟩)
      (fun _ R s => s.heap.get? T = some { cls := .type "tuple", dict := dd, data := .seq #[.int a t₁, .int b t₂] n, slots := sl } ∧ s.heap.get? T' = some { cls := .type "tuple", dict := dd2, data := .seq #[.int c t₃, .int d t₄] n2, slots := sl2 } ∧
        R (.ok (.ret (.bool (ltP (a, b) (c, d))))) s) :=
  .of_wp fun prog w A R s h => by
    obtain ⟨hp, g, dr, tk, os⟩ := s; obtain ⟨hl, hb, h⟩ := h
    have f2 := AutoSeq1.sub_tuple_tuple
    wp_walk using AutoSeq1.wpAny_loadPart' hl, AutoSeq1.wpAny_loadPart' hb, wpAny_forIn_list _ (fun rest b' s' => b'.1 = none ∧ s' = ⟨hp, g, dr, tk, os⟩ ∧
      (rest = [(.int a t₁, .int c t₃), (.int b t₂, .int d t₄)] ∨ (a = c ∧ rest = [(.int b t₂, .int d t₄)]) ∨ (a = c ∧ b = d ∧ rest = []))) _
    case turn =>
      rintro ⟨y, x⟩ rest b' s' ⟨hb', rfl, hz⟩
      have cmp : ∀ (i j : Int) (u v : Tok) (Q : Value → Shared → Prop) (E : Value → Shared → Prop), Q (.bool (decide (i < j))) ⟨hp, g, dr, tk, os⟩ → wpAny (model prog w) A.in1 (richCompare .Lt (.int i u) (.int j v)) Q E ⟨hp, g, dr, tk, os⟩ := fun i j u v Q E hq =>
        richCompare_gives (op := .Lt) (typeIs_int _ _ u) (typeIs_int _ _ v) F.slot_int_lt F.entry_int_lt (F.args_int_lt_2 _ _) (gives_int_lt _ _ u v) (fun x => nomatch x) hq
      rcases hz with hz | ⟨hac, hz⟩ | ⟨_, _, hz⟩
      · injection hz with h1 h2
        injection h1 with h3 h4
        subst h3 h4 h2
        refine wpAny_bind (wpAny_eqBool_int ?_)
        by_cases hac : a = c
        · rw [show (a == c) = true by simpa using hac]
          wp_walk
          exact ⟨rfl, rfl, .inr (.inl ⟨hac, rfl⟩)⟩
        · rw [show (a == c) = false by simpa using hac]
          simp only [Bool.not_false, if_true]
          refine wpAny_bind (wpAny_rule ?_)
          refine wpAny_bind (cmp a c t₁ t₃ _ _ ?_)
          wp_walk
          refine ⟨_, rfl, ?_⟩
          have e : ltP (a, b) (c, d) = decide (a < c) := by
            show decide (a < c ∨ (a = c ∧ b < d)) = _
            by_cases h' : a < c <;> simp [h', hac]
          rw [e] at h
          exact h
      · injection hz with h1 h2
        injection h1 with h3 h4
        subst h3 h4 h2
        refine wpAny_bind (wpAny_eqBool_int ?_)
        by_cases hbd : b = d
        · rw [show (b == d) = true by simpa using hbd]
          wp_walk
          exact ⟨rfl, rfl, .inr (.inr ⟨hac, hbd, rfl⟩)⟩
        · rw [show (b == d) = false by simpa using hbd]
          simp only [Bool.not_false, if_true]
          refine wpAny_bind (wpAny_rule ?_)
          refine wpAny_bind (cmp b d t₂ t₄ _ _ ?_)
          wp_walk
          refine ⟨_, rfl, ?_⟩
          have e : ltP (a, b) (c, d) = decide (b < d) := by
            show decide (a < c ∨ (a = c ∧ b < d)) = _
            subst hac
            simp
          rw [e] at h
          exact h
      · cases hz
    case fin =>
      rintro ⟨b1, b2⟩ s' ⟨hb', rfl, hz⟩
      simp only at hb'
      subst hb'
      rcases hz with hz | ⟨hac, hz⟩ | ⟨hac, hbd, _⟩
      · cases hz
      · cases hz
      · have e : ltP (a, b) (c, d) = false := by
          show decide (a < c ∨ (a = c ∧ b < d)) = false
          subst hac hbd
          simp
        rw [e] at h
        wp_walk
        exact ⟨_, rfl, by simpa [Builtin.Tuple.tupleCompareSizes] using h⟩
    case h =>
      exact ⟨rfl, rfl, .inl rfl⟩

def Prs (X : Rl) (vs : List Value) (ps : List (Int × Int)) : Prop := vs.length = ps.length ∧ ∀ (j : Nat) (p : Int × Int), ps[j]? = some p → ∃ T u v, vs[j]? = some (.ref T) ∧ Tup X T [.int p.1 u, .int p.2 v]
theorem Prs.mono {X Y : Rl} {vs : List Value} {ps : List (Int × Int)} (h : Prs X vs ps) (k : Sub X Y) : Prs Y vs ps := ⟨h.1, fun j p hp => let ⟨a, u, v, h1, h2⟩ := h.2 j p hp; ⟨a, u, v, h1, h2.mono k⟩⟩
theorem Prs.nil (X : Rl) : Prs X [] [] := ⟨rfl, fun j p h => by simp at h⟩
theorem Prs.snoc {X : Rl} {vs : List Value} {ps : List (Int × Int)} {T : Addr} {p : Int × Int} {u v : Tok} (h : Prs X vs ps) (hp : Tup X T [.int p.1 u, .int p.2 v]) : Prs X (vs ++ [.ref T]) (ps ++ [p]) := by
  refine ⟨by simp [h.1], fun j q hq => ?_⟩
  by_cases hj : j < ps.length
  · rw [List.getElem?_append_left hj] at hq
    obtain ⟨b, u', v', h1, h2⟩ := h.2 j q hq
    exact ⟨b, u', v', by rw [List.getElem?_append_left (by rw [h.1]; exact hj)]; exact h1, h2⟩
  · have e : j = ps.length := by
      have := (List.getElem?_eq_some_iff.mp hq).1
      simp at this; omega
    subst e
    have hq' : q = p := by simpa using hq.symm
    subst hq'
    exact ⟨T, u, v, by rw [← h.1]; simp, hp⟩

section
variable {prog : Program} {w : World} {A : Around} {E : Value → Shared → Prop} {s : Shared} {mg mb : Str → Option Value} {B : Rl} {ob : Ob}
theorem ltPair_ {T T' : Addr} {a b c d : Int} {t₁ t₂ t₃ t₄ : Tok} {Q : Value → Shared → Prop} (hl : s.heap.IsTuple T #[.int a t₁, .int b t₂]) (hb : s.heap.IsTuple T' #[.int c t₃, .int d t₄]) (hu : A.units < cLine)
    (h : Q (.bool (ltP (a, b) (c, d))) s) : wpAny (model prog w) A (richCompare .Lt (.ref T) (.ref T')) Q E s := by
  obtain ⟨⟨cls, dd, data, sl⟩, ho, hc, n, hd⟩ := id hl
  obtain ⟨⟨cls2, dd2, data2, sl2⟩, ho2, hc2, n2, hd2⟩ := id hb
  simp only at hc hd hc2 hd2
  subst hc hd hc2 hd2
  exact richCompare_meets_room (op := .Lt) ⟨_, ho, rfl⟩ ⟨_, ho2, rfl⟩ F.slot_tuple_lt F.entry_tuple_lt (F.args_tuple_lt_2 _ _) (ltPair_meets T T' n n2 dd dd2 sl sl2 a b c d t₁ t₂ t₃ t₄)
    ⟨ho, ho2, show Value.bool (ltP (a, b) (c, d)) ≠ Value.notImplemented ∧ Q (.bool (ltP (a, b) (c, d))) s from ⟨(fun x => nomatch x), h⟩⟩ hu

abbrev seqObj2 (vb : Value) (c : Nat) : Obj := { cls := .type "list", dict := none, data := .seq #[vb, vb] c, slots := #[] }
def seqP (vb : Value) : Th := fun o => ∃ c, o = seqObj2 vb c
theorem ltP_false {p pb q : Int × Int} (h1 : ltP p pb = true) (h2 : ltP q pb = false) : ltP q p = false := by
  simp only [ltP, decide_eq_true_eq, decide_eq_false_iff_not] at *; omega
theorem ltP_self (p : Int × Int) : ltP p p = false := by simp only [ltP, decide_eq_false_iff_not]; omega
theorem min_loop {ps : List (Int × Int)} {vs : List Value} {l I Sx : Addr} {R : Result → Shared → Prop} (hh : A.handled = none) (hu : A.units + 1 < cLine) (hl : Lst B l vs) (hp : Prs B vs ps)
    (hR : ∀ (j : Nat) (v : Value) (s' : Shared), vs[j]? = some v → (∀ p, ps[j]? = some p → ∀ (i : Nat) q, ps[i]? = some q → ltP q p = false) → St mg mb B s'.heap ob → Side s s' → R (.ok (.ret v)) s') :
    ∀ (k j b : Nat) (s₁ : Shared) (vb : Value) (pb : Int × Int), vs.length - (j + 1) = k → j + 1 ≤ vs.length → St mg mb B s₁.heap (ob ++ [(Sx, seqP vb), (I, litP l (j + 1))]) → vs[b]? = some vb → ps[b]? = some pb → (∀ (i : Nat) q, i ≤ j → ps[i]? = some q → ltP q pb = false) → Side s s₁ →
      codeAny (model prog w) A (.builtin "min.loop" ⟨[.ref I, .none, .ref Sx], []⟩) R s₁ := by
  have hname : (toString "min" ++ toString ".loop" : String) = "min.loop" := by decide
  intro k
  induction k with
  | zero =>
    intro j b s₁ vb pb hk hj S hvb hpb hbest sd
    have S₁ : St mg mb B s₁.heap ((ob ++ [(Sx, seqP vb)]) ++ [(I, litP l (j + 1))]) := by simpa [List.append_assoc] using S
    obtain ⟨oS, hoS, c, rfl⟩ := (S₁.own (Sx, seqP vb) (by simp)).1
    have hIt := At.isIter (S₁.own (I, litP l (j + 1)) (by simp)).1
    refine codeAny_builtin F.entry_min_loop ?_
    rw [Around.under_plainId F.plain_min_loop _]
    show wpAny _ A.in1 (seqItems? (.ref Sx) >>= _) _ _ s₁
    refine wpAny_bind (wpAny_seqItems hoS rfl ?_)
    show wpAny _ A.in1 (tryCatch (pyNext (.ref I)) _ >>= _) _ _ s₁
    refine wpAny_bind (wpAny_tryCatch (wpAny_pyNext_list_end (A := A.in1) hh hIt (hl.mono S.hp).isList (by simp; omega) fun h' he' => ?_))
    have S₂ := S₁.lose he'
    obtain ⟨oS', hoS', c', rfl⟩ := (S₂.own (Sx, seqP vb) (by simp)).1
    show wpAny _ A.in1 (updateSeq Sx (fun _ => #[]) >>= _) _ _ _
    refine wpAny_bind ?_
    refine wpAny_updateSeq hoS' rfl (wpAny_bind (wpAny_letGo (wpAny_pure ?_)))
    refine hR b vb _ hvb (fun p hp' i q hq => ?_) (S₂.lose fun b o hb e => (Heap.get?_update_other _ _ (Ne.symm hb)).trans e) sd
    rw [hpb] at hp'; cases hp'
    have := (List.getElem?_eq_some_iff.mp hq).1
    exact hbest i q (by have := hp.1; omega) hq
  | succ k ih =>
    intro j b s₁ vb pb hk hj S hvb hpb hbest sd
    have hlt : j + 1 < vs.length := by omega
    have hltp : j + 1 < ps.length := by have := hp.1; omega
    have hpj := List.getElem?_eq_getElem hltp
    generalize ps[j + 1] = p at hpj
    obtain ⟨T, u₁, u₂, hvj, hT⟩ := hp.2 _ p hpj
    obtain ⟨Tb, u₃, u₄, hvb', hTb⟩ := hp.2 _ pb hpb
    rw [hvb] at hvb'; cases hvb'
    have hjS : (ob ++ [(Sx, seqP (.ref Tb)), (I, litP l (j + 1))])[ob.length]? = some (Sx, seqP (.ref Tb)) := by simp
    have hjI : (ob ++ [(Sx, seqP (.ref Tb)), (I, litP l (j + 1))])[ob.length + 1]? = some (I, litP l (j + 1)) := by rw [List.getElem?_append_right (by omega)]; simp
    obtain ⟨oS, hoS, c, rfl⟩ := S.at _ hjS
    refine codeAny_builtin F.entry_min_loop ?_
    rw [Around.under_plainId F.plain_min_loop _]
    show wpAny _ A.in1 (seqItems? (.ref Sx) >>= _) _ _ s₁
    refine wpAny_bind (wpAny_seqItems hoS rfl ?_)
    show wpAny _ A.in1 (tryCatch (pyNext (.ref I)) _ >>= _) _ _ s₁
    refine wpAny_bind (wpAny_tryCatch (litNext (A := A.in1) (ob.length + 1) S hjI hl hvj fun h' S₁ => ?_))
    have e1 : (ob ++ [(Sx, seqP (.ref Tb)), (I, litP l (j + 1))]).set (ob.length + 1) (I, litP l (j + 1 + 1)) = ob ++ [(Sx, seqP (.ref Tb)), (I, litP l (j + 1 + 1))] := by
      rw [List.set_append_right _ _ (by omega)]; simp
    rw [e1] at S₁
    obtain ⟨oS', hoS', c', rfl⟩ := S₁.at ob.length (a := Sx) (P := seqP (.ref Tb)) (by simp)
    show wpAny _ A.in1 (tryCatch (holding [.ref T, .ref T] (richCompare .Lt (.ref T) (.ref Tb) >>= _)) _ >>= _) _ _ _
    refine wpAny_bind (wpAny_tryCatch (wpAny_holding (wpAny_bind (ltPair_ (A := A.in1) (hT.mono S₁.hp).isTup (hTb.mono S₁.hp).isTup hu ?_))))
    refine wpAny_bind (wpAny_holding (wpAny_truthy_bool ?_))
    refine wpAny_bind (wpAny_letGo (wpAny_pure ?_))
    cases hb : ltP p pb with
    | true =>
      simp only [if_true]
      refine wpAny_bind ?_
      refine wpAny_updateSeq hoS' rfl (wpAny_bind (wpAny_letGo ?_))
      rw [hname]
      refine wpAny_pure ⟨plainId_quiet F.plain_min_loop _, ih (j + 1) (j + 1) _ (.ref T) p (by omega) hlt ?_ hvj hpj (fun i q hi hq => ?_) sd⟩
      · have S₂ := S₁.same ob.length (a := Sx) (P := seqP (.ref Tb)) (P' := seqP (.ref T)) (h' := h'.update Sx (Obj.mapSeq fun _ => #[.ref T, .ref T])) (by simp) (Heap.SameBut.update ..) ⟨_, Heap.get?_update_self _ hoS' rfl, _, rfl⟩
        have e2 : (ob ++ [(Sx, seqP (.ref Tb)), (I, litP l (j + 1 + 1))]).set ob.length (Sx, seqP (.ref T)) = ob ++ [(Sx, seqP (.ref T)), (I, litP l (j + 1 + 1))] := by
          rw [List.set_append_right _ _ (by omega)]; simp
        rw [e2] at S₂
        exact S₂
      · by_cases hij : i = j + 1
        · subst hij
          rw [hpj] at hq; cases hq
          exact ltP_self p
        · exact ltP_false hb (hbest i q (by omega) hq)
    | false =>
      simp only [Bool.false_eq_true, if_false]
      refine wpAny_bind (wpAny_letGo ?_)
      rw [hname]
      refine wpAny_pure ⟨plainId_quiet F.plain_min_loop _, ih (j + 1) b _ (.ref Tb) pb (by omega) hlt S₁ hvb hpb (fun i q hi hq => ?_) sd⟩
      by_cases hij : i = j + 1
      · subst hij
        rw [hpj] at hq; cases hq
        exact hb
      · exact hbest i q (by omega) hq

theorem min_ {ps : List (Int × Int)} {vs : List Value} {l : Addr} {Q : Value → Shared → Prop} (S : St mg mb B s.heap ob) (hh : A.handled = none) (hu : A.units + 2 < cLine) (hl : Lst B l vs) (hp : Prs B vs ps) (hne : ps ≠ [])
    (h : ∀ (j : Nat) (p : Int × Int) (v : Value) (s' : Shared), vs[j]? = some v → ps[j]? = some p → (∀ (i : Nat) q, ps[i]? = some q → ltP q p = false) → St mg mb B s'.heap ob → Side s s' → Q v s') :
    wpAny (model prog w) A (call (.builtin "min") [.ref l]) Q E s := by
  have hname : (toString "min" ++ toString ".loop" : String) = "min.loop" := by decide
  have hlen := hp.1
  have hpos : 0 < ps.length := List.length_pos_iff.mpr hne
  refine call_function_tree F.kind_min F.plain_min F.entry_min (F.args_min1 _) ?_
  show wpAny _ A.in1 (Builtin.Builtins.bindParams "min" ["key", "default"] 0 ⟨[], []⟩ >>= _) _ _ s
  refine wpAny_bind (wpAny_of_eq (show Builtin.Builtins.bindParams "min" ["key", "default"] 0 ⟨[], []⟩ = pure [none, none] from rfl) ?_)
  refine wpAny_bind (wpAny_pure ?_)
  refine wpAny_bind (iter_ (A := A.in1) S hl fun it h₁ S₁ hwr hfp hne₁ hI hL => ?_)
  refine wpAny_bind (wpAny_newObj_type ?_)
  rw [hname]
  have hp0 := List.getElem?_eq_getElem hpos
  generalize ps[0] = p at hp0
  obtain ⟨T, u₁, u₂, hv0, hT⟩ := hp.2 0 p hp0
  have S₂ : St mg mb B h₁ (ob ++ [(it, litP l 0)]) := by
    obtain ⟨o, ho, r⟩ := hI
    refine ⟨S₁.wd, S₁.keep, fun q hq => ?_, ?_⟩
    · rcases List.mem_append.mp hq with hq | hq
      · exact S₁.own q hq
      · rw [List.mem_singleton.mp hq]
        exact ⟨⟨o, ho, r⟩, (hwr it (by simp)).1⟩
    · rw [List.map_append, List.nodup_append]
      refine ⟨S₁.dis, by simp, fun a ha b hb e => ?_⟩
      simp at hb
      subst hb
      exact (hwr b (by simp)).2 (e ▸ ha)
  have S₃ := S₂.push (o := { cls := .type "list", data := .seq #[] }) (fun o => o = ({ cls := .type "list", data := .seq #[] } : Obj)) rfl
  have S₄ : St mg mb B (h₁.push { cls := .type "list", data := .seq #[] }) (ob ++ [(h₁.objs.size, fun o => o = ({ cls := .type "list", data := .seq #[] } : Obj)), (it, litP l 0)]) := by
    refine ⟨S₃.wd, S₃.keep, fun q hq => S₃.own q ?_, ?_⟩
    · simp only [List.mem_append, List.mem_cons, List.not_mem_nil, or_false] at hq ⊢
      rcases hq with h | h | h
      · exact .inl (.inl h)
      · exact .inr h
      · exact .inl (.inr h)
    · have d := S₃.dis
      simp only [List.map_append, List.map_cons, List.map_nil, List.append_assoc, List.cons_append, List.nil_append] at d ⊢
      refine (List.Perm.nodup_iff ?_).mp d
      exact List.Perm.append_left _ (List.Perm.swap _ _ _)
  generalize h₁.objs.size = Sx at S₄
  refine wpAny_pure ⟨plainId_quiet F.plain_min_loop _, ?_⟩
  refine codeAny_builtin F.entry_min_loop ?_
  rw [Around.under_plainId F.plain_min_loop _]
  obtain ⟨oS, hoS, rfl⟩ := S₄.at ob.length (a := Sx) (P := fun o => o = ({ cls := .type "list", data := .seq #[] } : Obj)) (by simp)
  show wpAny _ A.in1 (seqItems? (.ref Sx) >>= _) _ _ _
  refine wpAny_bind (wpAny_seqItems hoS rfl ?_)
  show wpAny _ A.in1 (tryCatch (pyNext (.ref it)) _ >>= _) _ _ _
  refine wpAny_bind (wpAny_tryCatch (litNext (A := A.in1) (ob.length + 1) S₄ (by rw [List.getElem?_append_right (by omega)]; simp) hl hv0 fun h' S₅ => ?_))
  have e1 : (ob ++ [(Sx, fun o => o = ({ cls := .type "list", data := .seq #[] } : Obj)), (it, litP l 0)]).set (ob.length + 1) (it, litP l (0 + 1)) = ob ++ [(Sx, fun o => o = ({ cls := .type "list", data := .seq #[] } : Obj)), (it, litP l (0 + 1))] := by
    rw [List.set_append_right _ _ (by omega)]; simp
  rw [e1] at S₅
  obtain ⟨oS', hoS', rfl⟩ := S₅.at ob.length (a := Sx) (P := fun o => o = ({ cls := .type "list", data := .seq #[] } : Obj)) (by simp)
  show wpAny _ A.in1 (updateSeq Sx (fun _ => #[.ref T, .ref T]) >>= _) _ _ _
  refine wpAny_bind ?_
  refine wpAny_updateSeq hoS' rfl ?_
  rw [hname]
  refine wpAny_pure ⟨plainId_quiet F.plain_min_loop _, min_loop (A := A) (s := s) (mg := mg) (mb := mb) (ob := ob) hh (by omega) hl hp (fun j v s' hv hb S' sd => ?_) _ 0 0 _ (.ref T) p rfl (by omega) ?_ hv0 hp0 (fun i q hi hq => ?_) (Side.refl _)⟩
  · have hj := (List.getElem?_eq_some_iff.mp hv).1
    exact h j _ v s' hv (List.getElem?_eq_getElem (by omega)) (hb _ (List.getElem?_eq_getElem (by omega))) S' sd
  · have S₆ := S₅.same ob.length (a := Sx) (P := fun o => o = ({ cls := .type "list", data := .seq #[] } : Obj)) (P' := seqP (.ref T)) (h' := h'.update Sx (Obj.mapSeq fun _ => #[.ref T, .ref T])) (by simp) (Heap.SameBut.update ..) ⟨_, Heap.get?_update_self _ hoS' rfl, _, rfl⟩
    have e2 : (ob ++ [(Sx, fun o => o = ({ cls := .type "list", data := .seq #[] } : Obj)), (it, litP l (0 + 1))]).set ob.length (Sx, seqP (.ref T)) = ob ++ [(Sx, seqP (.ref T)), (it, litP l (0 + 1))] := by
      rw [List.set_append_right _ _ (by omega)]; simp
    rw [e2] at S₆
    exact S₆
  · have e : i = 0 := by omega
    subst e
    rw [hp0] at hq; cases hq
    exact ltP_self p
end
end Mine
end
/-! ## F21 -/
section
set_option maxRecDepth 100000
set_option maxHeartbeats 4000000
open PySem PySem.Calls PySem.W PyProof.Rows
open PySem.SeqAt PySem.MeetsSeq
namespace Mine
section
variable {prog : Program} {w : World} {A : Around} {E : Value → Shared → Prop} {s : Shared} {mg mb : Str → Option Value} {B : Rl} {ob : Ob} {env : Env}
theorem tupSame {T : Addr} {x y : Array Value} (h1 : s.heap.IsTuple T x) (h2 : s.heap.IsTuple T y) : x = y := by
  obtain ⟨o, ho, _, n, hd⟩ := h1
  obtain ⟨o', ho', _, n', hd'⟩ := h2
  rw [ho] at ho'; cases ho'
  rw [hd] at hd'
  injection hd'
theorem eqAtPair {T T' : Addr} {a b c d : Int} {t₁ t₂ t₃ t₄ : Tok} (h1 : s.heap.IsTuple T #[.int a t₁, .int b t₂]) (h2 : s.heap.IsTuple T' #[.int c t₃, .int d t₄]) (hu : A.units < cLine) : EqAt A s (.ref T) (.ref T') (decide ((a, b) = (c, d))) := by
  by_cases hT : T = T'
  · subst hT
    have := tupSame h1 h2
    simp at this
    have e : decide ((a, b) = (c, d)) = true := by simp [this.1.1, this.2.1]
    rw [e]
    exact EqAt.same _
  · have := EqAt.of_refs hT (RcAt.tuples (e := fun j => if j = 0 then a == c else b == d) h1 h2 hu fun j j1 j2 => by
      rcases j with _ | _ | j
      · exact (EqGives.int a c t₁ t₃).at _ _
      · exact (EqGives.int b d t₂ t₄).at _ _
      · simp at j1; omega)
    have e : ((List.range (min (#[Value.int a t₁, .int b t₂] : Array Value).size (#[Value.int c t₃, .int d t₄] : Array Value).size)).all (fun j => if j = 0 then a == c else b == d) && (#[Value.int a t₁, .int b t₂] : Array Value).size == (#[Value.int c t₃, .int d t₄] : Array Value).size) = decide ((a, b) = (c, d)) := by
      have e1 : List.range (min (#[Value.int a t₁, .int b t₂] : Array Value).size (#[Value.int c t₃, .int d t₄] : Array Value).size) = [0, 1] := rfl
      rw [e1]
      by_cases h1 : a = c <;> by_cases h2 : b = d <;> simp [h1, h2]
    rw [e] at this
    exact this

open Classical in
noncomputable def isPr (h : Heap) (p : Int × Int) (y : Value) : Bool := decide (∃ T u v, y = .ref T ∧ h.IsTuple T #[.int p.1 u, .int p.2 v])
open Classical in
theorem isPr_of {T : Addr} {p q : Int × Int} {u v : Tok} (h : s.heap.IsTuple T #[.int q.1 u, .int q.2 v]) : isPr s.heap p (.ref T) = decide (q = p) := by
  unfold isPr
  by_cases hq : q = p
  · subst hq
    rw [decide_eq_true (Eq.refl q)]
    exact decide_eq_true ⟨T, u, v, rfl, h⟩
  · rw [decide_eq_false hq]
    refine decide_eq_false ?_
    rintro ⟨T', u', v', e, h'⟩
    cases e
    have := tupSame h h'
    simp at this
    exact hq (Prod.ext this.1.1 this.2.1)

theorem rules_at {l : Addr} {rs : List (Int × Int)} {p : Int × Int} {P : Addr} {u v : Tok} (hr : Pairs B l rs) (hk : Sub B (Hp s.heap)) (hP : s.heap.IsTuple P #[.int p.1 u, .int p.2 v]) (hu : A.units < cLine) :
    ∃ ts : List Addr, s.heap.IsList l (ts.map Value.ref).toArray ∧ ts.length = rs.length ∧ (∃ o, s.heap.get? l = some o ∧ o.dict = none) ∧ (∀ y ∈ (ts.map Value.ref).toArray, EqAt A s y (.ref P) (isPr s.heap p y)) ∧
      ∀ (i : Nat) q, rs[i]? = some q → ∃ y, (ts.map Value.ref)[i]? = some y ∧ isPr s.heap p y = decide (q = p) := by
  obtain ⟨ts, hl, hlen, hp⟩ := hr
  refine ⟨ts, (hl.mono hk).isList, hlen, ?_, fun y hy => ?_, fun i q hq => ?_⟩
  · obtain ⟨o, ho, _, hd, _⟩ := hl
    exact ⟨o, hk _ _ ho, hd⟩
  · obtain ⟨i, hi⟩ := List.mem_iff_getElem?.mp (show y ∈ ts.map Value.ref by simpa using hy)
    have hil := (List.getElem?_eq_some_iff.mp hi).1
    simp at hil
    have hq := List.getElem?_eq_getElem (show i < rs.length by omega)
    generalize rs[i] = q at hq
    obtain ⟨T, u', v', h1, h2⟩ := hp i q hq
    rw [List.getElem?_map, h1] at hi
    cases hi
    rw [isPr_of (h2.mono hk).isTup]
    exact eqAtPair (h2.mono hk).isTup hP hu
  · obtain ⟨T, u', v', h1, h2⟩ := hp i q hq
    exact ⟨.ref T, by rw [List.getElem?_map, h1]; rfl, isPr_of (h2.mono hk).isTup⟩
theorem inRules_ {l P : Addr} {rs : List (Int × Int)} {p : Int × Int} {u v : Tok} {Q : Value → Shared → Prop} (hr : Pairs B l rs) (hk : Sub B (Hp s.heap)) (hP : s.heap.IsTuple P #[.int p.1 u, .int p.2 v]) (hu : A.units + 1 < cLine)
    (h : Q (.bool (decide (p ∈ rs))) s) : wpAny (model prog w) A (compareOp .In (.ref P) (.ref l)) Q E s := by
  obtain ⟨ts, hl, hlen, _, he, hat⟩ := rules_at (A := A.in1) hr hk hP hu
  refine in_listAt (isPr s.heap p) hl he ?_
  have e : ((ts.map Value.ref).toArray.any (isPr s.heap p)) = decide (p ∈ rs) := by
    rw [List.any_toArray]
    by_cases hp : p ∈ rs
    · rw [decide_eq_true hp]
      obtain ⟨i, hi⟩ := List.mem_iff_getElem?.mp hp
      obtain ⟨y, h1, h2⟩ := hat i p hi
      rw [decide_eq_true rfl] at h2
      exact List.any_eq_true.mpr ⟨y, List.mem_of_getElem? h1, h2⟩
    · rw [decide_eq_false hp]
      refine List.any_eq_false.mpr fun y hy => ?_
      obtain ⟨i, hi⟩ := List.mem_iff_getElem?.mp hy
      have hil := (List.getElem?_eq_some_iff.mp hi).1
      simp at hil
      have hq := List.getElem?_eq_getElem (show i < rs.length by omega)
      generalize rs[i] = q at hq
      obtain ⟨y', h1, h2⟩ := hat i q hq
      rw [hi] at h1; cases h1
      rw [h2]
      have : q ≠ p := fun e => hp (e ▸ List.mem_of_getElem? hq)
      simp [this]
  rw [e]; exact h
theorem indexRules_ {l P : Addr} {rs : List (Int × Int)} {p : Int × Int} {u v : Tok} {Q : Value → Shared → Prop} (hr : Pairs B l rs) (hk : Sub B (Hp s.heap)) (hP : s.heap.IsTuple P #[.int p.1 u, .int p.2 v]) (hu : A.units + 1 < cLine) (hm : p ∈ rs) (hsz : rs.length ≤ 1000)
    (h : ∀ t tk, Q (.int (rs.idxOf p : Nat) t) { s with toks := tk }) : wpAny (model prog w) A (call (.builtin "list.index") [.ref l, .ref P]) Q E s := by
  obtain ⟨ts, hl, hlen, _, he, hat⟩ := rules_at (A := A.in1) hr hk hP hu
  obtain ⟨⟨cls, dd, data, sl⟩, ho, hc, n, hd⟩ := id hl
  simp only at hc hd
  subst hc hd
  have hj : rs.idxOf p < rs.length := List.idxOf_lt_length_iff.mpr hm
  refine call_meets F.slot_list_index ⟨_, ho, rfl⟩ F.entry_list_index (F.args_list_index_2 _ _) (list_indexAt l (ts.map Value.ref).toArray n dd sl (.ref P) (isPr s.heap p) (rs.idxOf p) (by simpa [hlen] using hj) (by omega) ?_ ?_) ⟨ho, he, h _ _⟩
  · obtain ⟨y, h1, h2⟩ := hat (rs.idxOf p) p (by rw [List.getElem?_eq_getElem hj, List.getElem_idxOf])
    obtain ⟨hlt, e⟩ := List.getElem?_eq_some_iff.mp h1
    have e' : (ts.map Value.ref).toArray[rs.idxOf p]'(by simpa using hlt) = y := by simpa using e
    rw [e', h2]; simp
  · intro j hjs hlt
    have hjr : j < rs.length := by simpa [hlen] using hjs
    obtain ⟨y, h1, h2⟩ := hat j rs[j] (List.getElem?_eq_getElem hjr)
    obtain ⟨hlt', e⟩ := List.getElem?_eq_some_iff.mp h1
    have e' : (ts.map Value.ref).toArray[j]'hjs = y := by simpa using e
    rw [e', h2]
    have hnf := List.not_of_lt_findIdx (p := (· == p)) (xs := rs) hlt
    have : rs[j] ≠ p := fun e => by simp [e] at hnf
    simp [this]
end
end Mine
end
/-! ## F22 -/
section
set_option maxRecDepth 100000
set_option maxHeartbeats 4000000
open PySem PySem.Calls PySem.W PyProof.Rows
namespace Mine
theorem typeNeSlice : ¬ ((Value.type "slice" != Value.type "slice") = true) := by decide
section
variable {prog : Program} {w : World} {A : Around} {E : Value → Shared → Prop} {s : Shared} {mg mb : Str → Option Value} {B : Rl} {ob : Ob} {env : Env}
/-- own again -/
theorem St.reclaim {B' : Rl} {h h₀ : Heap} {ob ob₀ : Ob} {a : Addr} {P : Th} (S₀ : St mg mb B h₀ ob₀) (S : St mg mb B' h ob) (k : Sub B B') (hn : ∀ o, ¬ B a o) (ha : ∃ o, B' a o ∧ P o) :
    St mg mb (fun b o => B' b o ∧ b ≠ a) h (ob ++ [(a, P)]) ∧ Sub B (fun b o => B' b o ∧ b ≠ a) := by
  have k' : Sub B (fun b o => B' b o ∧ b ≠ a) := fun b o e => ⟨k b o e, fun h => hn o (h ▸ e)⟩
  obtain ⟨o, ho, hp⟩ := ha
  refine ⟨⟨let ⟨h₁, W, q⟩ := S₀.wd; ⟨h₁, W, fun b o e => k' b o (q b o e)⟩, fun b o e => S.keep b o e.1, fun p hp' => ?_, ?_⟩, k'⟩
  · rcases List.mem_append.mp hp' with hp' | hp'
    · exact ⟨(S.own p hp').1, fun o e => (S.own p hp').2 o e.1⟩
    · rw [List.mem_singleton.mp hp']
      exact ⟨⟨o, S.keep _ _ ho, hp⟩, fun o e => e.2 rfl⟩
  · rw [List.map_append, List.nodup_append]
    refine ⟨S.dis, by simp, fun x hx y hy e => ?_⟩
    simp at hy
    subst hy
    obtain ⟨p, hpm, e'⟩ := List.mem_map.mp hx
    exact (S.own p hpm).2 o (by rw [e', e]; exact ho)

theorem setSlice_ (j : Nat) {D sl r : Addr} {xs ys : List Value} {a b : Nat} {t₁ t₂ : Tok} {Q : Unit → Shared → Prop} (S : St mg mb B s.heap ob) (hj : ob[j]? = some (D, listP xs)) (hr : s.heap.IsList r ys.toArray) (hne : D ≠ r)
    (hs : s.heap.IsSliceOf sl (.int a t₁) (.int b t₂) .none) (hab : a ≤ b) (hb : b ≤ xs.length) (hx : xs.length ≤ 10000) (hy : ys.length ≤ 10000)
    (h : ∀ h', St mg mb B h' (ob.set j (D, listP (xs.take a ++ ys ++ xs.drop b))) → Q () { s with heap := h' }) : wpAny (model prog w) A (setItem (.ref D) (.ref sl) (.ref r)) Q E s := by
  have hP := S.at j hj
  have hl := hP.isList
  obtain ⟨o, ho, hc, hdn, n, hd⟩ := hP
  obtain ⟨os, hos, hcs, hds⟩ := id hs
  obtain ⟨orr, hor, hcr, nr, hdr⟩ := id hr
  have hTs : s.TypeIs (.ref sl) "slice" := ⟨os, hos, hcs⟩
  unfold setItem
  try with_reducible refine wpAny_holding ?_
  first | refine wpAny_bind (wpAny_pure ?_) | skip
  refine wpAny_bind (wpAny_sequenceKey hl.typeIs (by decide) ?_)
  refine wpAny_bind (wpAny_callSpecial?_slot (name := Str.ofString "__setitem__") hl.typeIs slot_list_setitem
    (wpAny_call_entry slot_list_setitem hl.typeIs entry_list_setitem ?_ (args_list_setitem _ _ _)))
  show wpAny _ _ (Builtin.List.listSubscript? (.ref sl) >>= _) _ _ s
  refine wpAny_bind ?_
  unfold Builtin.List.listSubscript?
  refine wpAny_bind (wpAny_specialOf hTs slice_no_index ?_)
  simp only [Option.isNone_none, if_true]
  refine wpAny_pure ?_
  show wpAny _ _ (typeOf (.ref sl) >>= _) _ _ s
  refine wpAny_bind (wpAny_typeOf hTs ?_)
  rw [if_neg (by decide)]
  rw [listSliceParts_eq]
  have hstep : ¬ ((Value.none == rawInt 0) = true) := Bool.false_ne_true
  refine wpAny_bind (wpAny_bind (wpAny_field hos hds (x := .none) rfl (wpAny_bind (wpAny_listPart (k := none) .none ?_))))
  rw [if_neg (show ¬ ((rawPart none == rawInt 0) = true) from hstep)]
  refine wpAny_bind (wpAny_field hos hds (x := .int a t₁) rfl (wpAny_bind (wpAny_listPart (.int _ _) ?_)))
  refine wpAny_bind (wpAny_field hos hds (x := .int b t₂) rfl (wpAny_bind (wpAny_listPart (.int _ _) (wpAny_pure ?_))))
  have hsame : Builtin.List.listSameRef (.ref D) (.ref r) = false := by
    show (D == r) = false
    simpa using hne
  rw [if_neg (by rw [hsame]; exact Bool.false_ne_true)]
  refine wpAny_bind ?_
  unfold Builtin.List.listAllItems
  refine wpAny_bind (wpAny_typeOf (T := "list") hr.typeIs ?_)
  rw [if_pos (by decide)]
  unfold Builtin.List.listItems
  refine wpAny_bind (wpAny_seqItems hor hdr (wpAny_pure ?_))
  refine wpAny_bind (m := Builtin.List.listItems (.ref D)) ?_
  unfold Builtin.List.listItems
  refine wpAny_bind (wpAny_seqItems ho hd (wpAny_pure ?_))
  refine wpAny_bind (wpAny_of_eq (sliceIndices_raw (some (a : Int)) (some (b : Int)) none xs.toArray.size (by simp)) ?_)
  have hbd : sliceBounds (some (a : Int)) (some (b : Int)) none xs.toArray.size = ((a : Int), (b : Int), 1) := by
    simp only [sliceBounds, Option.getD_none]
    have h1 : ¬ ((a : Int) < 0) := by omega
    have h2 : ¬ ((b : Int) < 0) := by omega
    have h3 : (xs.toArray.size : Int) = xs.length := by simp
    simp only [h1, h2, if_false, show (1 : Int) > 0 by decide, if_true, h3]
    congr 1
    · omega
    · congr 1; omega
  rw [hbd]
  show wpAny _ _ (if ((1 : Int) == 1) = true then _ else _) _ _ s
  rw [if_pos (by decide)]
  refine wpAny_bind (wpAny_rule ?_)
  have hlong : Builtin.List.listTooLong (xs.toArray.size + ys.toArray.size) = false := by
    show decide (_ > sizeLine) = false
    rw [sizeLine_eq]
    simp; omega
  simp only [hlong, Bool.false_eq_true, if_false]
  have earr : xs.toArray.extract 0 (a : Int).toNat ++ ys.toArray ++ xs.toArray.extract (max (a : Int) (b : Int)).toNat xs.toArray.size = (xs.take a ++ ys ++ xs.drop b).toArray := by
    have e1 : (max (a : Int) (b : Int)).toNat = b := by omega
    have e2 : (a : Int).toNat = a := by omega
    rw [e1, e2]
    apply Array.ext'
    simp
    rw [List.take_of_length_le (by simp)]
  show wpAny _ _ (updateSeq D (fun xs' => xs'.extract 0 (a : Int).toNat ++ ys.toArray ++ xs'.extract (max (a : Int) (b : Int)).toNat xs'.size) >>= _) _ _ s
  obtain ⟨n', hd'⟩ := Obj.data_mapSeq hd (fun xs' => xs'.extract 0 (a : Int).toNat ++ ys.toArray ++ xs'.extract (max (a : Int) (b : Int)).toNat xs'.size)
  rw [earr] at hd'
  have hfin : At (s.heap.update D (Obj.mapSeq (fun xs' => xs'.extract 0 (a : Int).toNat ++ ys.toArray ++ xs'.extract (max (a : Int) (b : Int)).toNat xs'.size))) D (listP (xs.take a ++ ys ++ xs.drop b)) := by
    refine ⟨_, Heap.get?_update_self _ ho (Obj.isFreed_of_seq hd'), (Obj.cls_mapSeq ..).trans hc, ?_, n', hd'⟩
    obtain ⟨c, d, dt, sl'⟩ := o
    subst hd
    exact hdn
  have key := h _ (S.same j hj (Heap.SameBut.update ..) hfin)
  refine wpAny_bind (wpAny_updateSeq ho hd ?_ (by rw [sizeLine_eq, List.size_toArray]; omega) (by rw [earr, sizeLine_eq, List.size_toArray]; simp only [List.length_append, List.length_take, List.length_drop]; omega))
  refine wpAny_bind (wpAny_letGo ?_)
  first
    | exact wpAny_bind (wpAny_pure (wpAny_pure ⟨.none, rfl, wpAny_pure key⟩))
    | exact wpAny_pure ⟨.none, rfl, wpAny_pure key⟩
end
end Mine
end
/-! ## F23 -/
section
set_option maxRecDepth 100000
set_option maxHeartbeats 4000000
open PySem PySem.Calls PySem.W PyProof.Rows
namespace Mine
theorem meets_enumerate_newZ (z TI TO : Addr) :
    Meets (Builtin.«enumerate.__new__» ⟨[.type "enumerate", .ref z], []⟩) (fun _ R s => IsZip s.heap z TI TO .none ∧
      R (.ok (.ret (.ref s.heap.objs.size))) { s with heap := s.heap.push { cls := .type "enumerate", data := .fields #[.none, .bool false, .ref z, rawInt 0, .none, .none] } }) :=
  .of_wp fun prog w A R s h => by
    obtain ⟨hp, g, d, tk, os⟩ := s; obtain ⟨hl, h⟩ := h
    have hsub := sub_enumerate
    have hL : IsZip (Shared.heap ⟨hp, g, d, tk, os⟩) z TI TO .none := hl
    wp_walk using AutoSeq1.wpAny_loadPart' hl
    refine wpAny_stack_any fun st => wpAny_pure ?_
    split
    · rename_i c _ _ _ _ _
      cases (c == Value.type "enumerate")
      · wp_walk using AutoSeq1.wpAny_loadPart' hl, wpAny_pyIter_zip hL
        exact ⟨_, rfl, h⟩
      · wp_walk using AutoSeq1.wpAny_loadPart' hl, wpAny_pyIter_zip hL
        exact ⟨_, rfl, h⟩
    · wp_walk using AutoSeq1.wpAny_loadPart' hl, wpAny_pyIter_zip hL
      exact ⟨_, rfl, h⟩

def zP (TI TO : Addr) : Option Addr → Th
  | none => fun o => o = { cls := .type "zip", dict := none, data := .fields #[.none, .bool false, .bool false, .ref TI, .ref TO], slots := #[] }
  | some T => fun o => ∃ b, o = { cls := .type "zip", dict := none, data := .fields #[rawInt T, .bool b, .bool false, .ref TI, .ref TO], slots := #[] }
def prP (a b : Value) : Th := fun o => o = { cls := .type "tuple", data := .seq #[a, b] }
def prAny : Th := fun o => ∃ a b, o = { cls := .type "tuple", data := .seq #[a, b] }
def ZL (z TI TO i1 i2 l1 l2 : Addr) (k : Nat) (f : Option Addr) : Ob := [(z, zP TI TO f), (TI, prP (.ref i1) (.ref i2)), (TO, prAny), (i1, litP l1 k), (i2, litP l2 k)]

section
variable {prog : Program} {w : World} {A : Around} {E : Value → Shared → Prop} {s : Shared} {mg mb : Str → Option Value} {B : Rl} {ob : Ob} {env : Env}
theorem St.perm {h : Heap} {ob ob' : Ob} (S : St mg mb B h ob) (p : ob.Perm ob') : St mg mb B h ob' :=
  ⟨S.wd, S.keep, fun q hq => S.own q (p.mem_iff.mpr hq), (p.map _).nodup_iff.mp S.dis⟩
theorem wpAny_loadIfAlive' {a : Addr} {Q : Option Obj → Shared → Prop} (h : Q (s.heap.get? a) s) : wpAny (model prog w) A (loadIfAlive a) Q E s := fun _ _ _ => h
theorem litNextOf (j : Nat) {it l : Addr} {k : Nat} {xs : List Value} {v : Value} {Q : Value → Shared → Prop} (S : St mg mb B s.heap ob) (hj : ob[j]? = some (it, litP l k)) (hl : Lst B l xs) (hx : xs[k]? = some v)
    (h : ∀ h', St mg mb B h' (ob.set j (it, litP l (k + 1))) → Q v { s with heap := h' }) : wpAny (model prog w) A (Builtin.SmallTypes.nextOf (.ref it)) Q E s := by
  refine wpAny_nextOf_list_item (S.at j hj).isIter (hl.mono S.hp).isList (x := v) (by simpa using hx) fun h' hit' hs' => h h' ?_
  exact S.same j hj hs' hit'

theorem zipNextOf {z TI TO i1 i2 l1 l2 : Addr} {k : Nat} {f : Option Addr} {xs ys : List Value} {x y : Value} {Q : Value → Shared → Prop} (S : St mg mb B s.heap (ZL z TI TO i1 i2 l1 l2 k f ++ ob)) (hf : ∀ T, f = some T → ∃ o, B T o)
    (hl1 : Lst B l1 xs) (hl2 : Lst B l2 ys) (hx : xs[k]? = some x) (hy : ys[k]? = some y)
    (h : ∀ T h' f', (f' = some T ∨ (f' = f ∧ f ≠ none)) → St mg mb B h' (ZL z TI TO i1 i2 l1 l2 (k + 1) f' ++ (ob ++ [(T, tupP [x, y])])) → Q (.ref T) { s with heap := h' }) :
    wpAny (model prog w) A (Builtin.SmallTypes.nextOf (.ref z)) Q E s := by
  have hTI0 := S.at 1 (a := TI) rfl
  obtain ⟨oTI, hTI, rfl⟩ := hTI0
  cases f with
  | some T₀ =>
    obtain ⟨o₀, ho₀⟩ := hf T₀ rfl
    obtain ⟨oz, hz, bb, rfl⟩ := S.at 0 (a := z) rfl
    have hT : s.TypeIs (.ref z) "zip" := ⟨_, hz, rfl⟩
    unfold Builtin.SmallTypes.nextOf
    refine wpAny_bind (wpAny_callSpecial?_slot (name := Str.ofString "__next__") hT F.slot_zip_next (wpAny_call_entry F.slot_zip_next hT F.entry_zip_next ?_ (F.args_zip_next_1 _)))
    show wpAny _ _ (field (.ref z) 2 >>= _) _ _ _
    refine wpAny_bind (wpAny_field hz rfl (x := .bool false) rfl ?_)
    show wpAny _ _ (field (.ref z) 3 >>= _) _ _ _
    refine wpAny_bind (wpAny_field hz rfl (x := .ref TI) rfl ?_)
    refine wpAny_bind (wpAny_seqItems hTI rfl ?_)
    show wpAny _ _ (Builtin.SmallTypes.ownedTupleIsFree (.ref z) >>= _) _ _ _
    refine wpAny_bind (wpAny_mono (Q := fun b s' => b = false ∧ ∃ h₁, s' = { s with heap := h₁ } ∧ St mg mb B h₁ (ZL z TI TO i1 i2 l1 l2 k (some T₀) ++ ob)) ?_ (fun b s' hb => ?_) fun _ _ e => e)
    · unfold Builtin.SmallTypes.ownedTupleIsFree
      refine wpAny_bind (wpAny_field hz rfl (x := rawInt T₀) rfl ?_)
      show wpAny _ _ (loadIfAlive T₀ >>= _) _ _ _
      refine wpAny_bind (wpAny_loadIfAlive' ?_)
      rw [show s.heap.get? T₀ = some o₀ from S.keep _ _ ho₀]
      simp only [Option.isNone_some, Bool.false_eq_true, if_false]
      refine wpAny_bind (wpAny_field hz rfl (x := .bool bb) rfl ?_)
      cases bb with
      | true =>
        simp only [bne_self_eq_false, Bool.false_eq_true, if_false]
        exact wpAny_pure ⟨rfl, _, rfl, S⟩
      | false =>
        rw [if_pos (by decide)]
        refine wpAny_bind (wpAny_setField_rec hz (by simp) fun h₁ hz₁ hs₁ => wpAny_pure ⟨rfl, _, rfl, ?_⟩)
        exact S.same 0 (P' := zP TI TO (some T₀)) rfl hs₁ ⟨_, hz₁, true, rfl⟩
    obtain ⟨rfl, h₁, rfl, S₁⟩ := hb
    simp only [Bool.false_eq_true, if_false]
    refine wpAny_bind ?_
    rw [← Array.forIn_toList]
    simp only [List.forIn_cons, List.forIn_nil]
    refine wpAny_bind (wpAny_bind (wpAny_holding ?_))
    show wpAny _ _ (Builtin.SmallTypes.nextOf (.ref i1) >>= _) _ _ _
    refine wpAny_bind (litNextOf (A := A.in1) 3 S₁ rfl hl1 hx fun h₂ S₂ => wpAny_pure (wpAny_pure ?_))
    refine wpAny_bind (wpAny_bind (wpAny_holding ?_))
    show wpAny _ _ (Builtin.SmallTypes.nextOf (.ref i2) >>= _) _ _ _
    refine wpAny_bind (litNextOf (A := A.in1) 4 S₂ rfl hl2 hy fun h₃ S₃ => wpAny_pure (wpAny_pure (wpAny_pure ?_)))
    refine wpAny_bind (newTuple_ (A := A.in1) S₃ (by rw [sizeLine_eq]; show 2 ≤ 16777216; decide) fun T h₄ S₄ => ?_)
    refine wpAny_pure ⟨_, rfl, wpAny_pure (h T h₄ (some T₀) (.inr ⟨rfl, nofun⟩) ?_)⟩
    rw [← List.append_assoc]
    exact S₄
  | none =>
    obtain ⟨oz, hz, rfl⟩ := S.at 0 (a := z) rfl
    obtain ⟨oTO, hTO, va, vb, rfl⟩ := S.at 2 (a := TO) rfl
    have hI1 := (S.at 3 (a := i1) rfl).isIter
    have hI2 := (S.at 4 (a := i2) rfl).isIter
    have hL1 := (hl1.mono S.hp).isList
    have hL2 := (hl2.mono S.hp).isList
    have d := S.dis
    have offl : ∀ b ∈ (ZL z TI TO i1 i2 l1 l2 k none).map (·.1), l1 ≠ b ∧ l2 ≠ b := fun b hb => by
      obtain ⟨p, hp, rfl⟩ := List.mem_map.mp hb
      have hno := (S.own p (List.mem_append_left _ hp)).2
      obtain ⟨o1, ho1, _⟩ := hl1
      obtain ⟨o2, ho2, _⟩ := hl2
      exact ⟨fun e => hno o1 (e ▸ ho1), fun e => hno o2 (e ▸ ho2)⟩
    have hz' := offl z (by simp [ZL])
    have hTO' := offl TO (by simp [ZL])
    have hi1' := offl i1 (by simp [ZL])
    have hi2' := offl i2 (by simp [ZL])
    rw [List.map_append, List.nodup_append] at d
    obtain ⟨dz, _, doff⟩ := d
    have dz' : ([z, TI, TO, i1, i2] : List Addr).Nodup := dz
    simp only [List.nodup_cons, List.mem_cons, List.not_mem_nil, or_false, not_or, not_false_eq_true, List.nodup_nil, and_true] at dz'
    obtain ⟨⟨z1, z2, z3, z4⟩, ⟨t1, t2, t3⟩, ⟨o1, o2⟩, j1⟩ := dz'
    have D : ZipApart z TI TO i1 i2 l1 l2 := ⟨Ne.symm z1, Ne.symm z2, Ne.symm z3, Ne.symm z4, t1, t2, t3, o1, o2, j1, hz'.1, hTO'.1, hi1'.1, hi2'.1, hz'.2, hTO'.2, hi1'.2, hi2'.2⟩
    have hT : s.TypeIs (.ref z) "zip" := ⟨_, hz, rfl⟩
    unfold Builtin.SmallTypes.nextOf
    refine wpAny_bind (wpAny_callSpecial?_slot (name := Str.ofString "__next__") hT F.slot_zip_next (wpAny_call_entry F.slot_zip_next hT F.entry_zip_next
      (zip_next_item D hz hTI hTO hI1 hI2 hL1 hL2 (by simpa using hx) (by simpa using hy) fun h' a1 a2 a3 a4 a5 a6 a7 => wpAny_pure (h s.heap.objs.size h' (some s.heap.objs.size) (.inl rfl) ?_)) (F.args_zip_next_1 _)))
    have hnew : s.heap.get? s.heap.objs.size = none := no_size (Nat.le_refl _)
    have hk : ∀ b o, b ∉ [z, TO, i1, i2] → s.heap.get? b = some o → h'.get? b = some o := fun b o hb e => a7 b o (fun e' => hb (by simp [e'])) (fun e' => hb (by simp [e'])) (fun e' => hb (by simp [e'])) (fun e' => hb (by simp [e'])) e
    have S₁ : St mg mb B h' (ZL z TI TO i1 i2 l1 l2 (k + 1) (some s.heap.objs.size) ++ ob) := by
      refine S.many [z, TO, i1, i2] (by simp [ZL]) hk _ (by simp [ZL]) fun p hp => ?_
      rcases List.mem_append.mp hp with hp | hp
      · simp only [ZL, List.mem_cons, List.not_mem_nil, or_false] at hp
        rcases hp with rfl | rfl | rfl | rfl | rfl
        · exact ⟨_, a1, false, rfl⟩
        · exact ⟨_, hk TI _ (by simp [z1, Ne.symm z1, t1, t2, t3]) hTI, rfl⟩
        · exact ⟨_, a2, _, _, rfl⟩
        · exact a3
        · exact a4
      · refine (S.own p (List.mem_append_right _ hp)).1.keep fun o e => hk _ o (fun hm => ?_) e
        have hpm := List.mem_map_of_mem (f := (·.1)) hp
        simp only [List.mem_cons, List.not_mem_nil, or_false] at hm
        rcases hm with h | h | h | h
        · exact doff z (by simp [ZL]) p.1 hpm h.symm
        · exact doff TO (by simp [ZL]) p.1 hpm h.symm
        · exact doff i1 (by simp [ZL]) p.1 hpm h.symm
        · exact doff i2 (by simp [ZL]) p.1 hpm h.symm
    rw [← List.append_assoc]
    refine ⟨S₁.wd, S₁.keep, fun p hp => ?_, ?_⟩
    · rcases List.mem_append.mp hp with hp | hp
      · exact S₁.own p hp
      · rw [List.mem_singleton.mp hp]
        exact ⟨⟨_, a5, rfl, 0, rfl⟩, fun o e => by have := S.keep _ _ e; rw [hnew] at this; cases this⟩
    · rw [List.map_append, List.nodup_append]
      refine ⟨S₁.dis, by simp, fun x hx y hy e => ?_⟩
      simp at hy
      subst hy
      subst e
      have hx' : s.heap.objs.size ∈ (ZL z TI TO i1 i2 l1 l2 k none ++ ob).map (·.1) := by
        rw [List.map_append] at hx ⊢
        exact hx
      obtain ⟨o, ho⟩ := S.there hx'
      rw [hnew] at ho; cases ho
end
end Mine
end
/-! ## F24 -/
section
set_option maxRecDepth 100000
set_option maxHeartbeats 4000000
open PySem PySem.Calls PySem.W PyProof.Rows
namespace Mine
def enX (z : Addr) (i : Int) (f0 old : Value) : Th := fun o => o = { cls := .type "enumerate", dict := none, data := .fields #[f0, .bool false, .ref z, rawInt i, .none, old], slots := #[] }
section
variable {prog : Program} {w : World} {A : Around} {E : Value → Shared → Prop} {s : Shared} {mg mb : Str → Option Value} {B : Rl} {ob : Ob} {env : Env}
theorem zipNextEnd {z TI TO i1 i2 l1 l2 : Addr} {k : Nat} {f : Option Addr} {xs ys : List Value} {x : Value} {Q : Value → Shared → Prop} (hh : A.handled = none) (S : St mg mb B s.heap (ZL z TI TO i1 i2 l1 l2 k f ++ ob)) (hf : ∀ T, f = some T → ∃ o, B T o)
    (hl1 : Lst B l1 xs) (hl2 : Lst B l2 ys) (hx : xs[k]? = some x) (hy : ys[k]? = none)
    (h : ∀ h' e, St mg mb B h' ob → (∃ o, h'.get? e = some o ∧ o.cls = .type "StopIteration") → E (.ref e) { s with heap := h' }) :
    wpAny (model prog w) A (Builtin.SmallTypes.nextOf (.ref z)) Q E s := by
  obtain ⟨oTI, hTI, rfl⟩ := S.at 1 (a := TI) rfl
  have d := S.dis
  have offB : ∀ b ∈ (ZL z TI TO i1 i2 l1 l2 k f).map (·.1), ∀ o, ¬ B b o := fun b hb => by
    obtain ⟨p, hp, rfl⟩ := List.mem_map.mp hb
    exact (S.own p (List.mem_append_left _ hp)).2
  rw [List.map_append, List.nodup_append] at d
  obtain ⟨dz, _, doff⟩ := d
  have S₀ : St mg mb B s.heap ob := S.sub (List.sublist_append_right _ _)
  have hw : ∀ b ∈ [z, TO, i1, i2], (∀ o, ¬ B b o) ∧ b ∉ ob.map (·.1) := fun b hb => by
    have hb' : b ∈ (ZL z TI TO i1 i2 l1 l2 k f).map (·.1) := by
      simp only [List.mem_cons, List.not_mem_nil, or_false] at hb
      rcases hb with rfl | rfl | rfl | rfl <;> simp [ZL]
    exact ⟨offB b hb', fun hm => doff b hb' b hm rfl⟩
  cases f with
  | some T₀ =>
    obtain ⟨o₀, ho₀⟩ := hf T₀ rfl
    obtain ⟨oz, hz, bb, rfl⟩ := S.at 0 (a := z) rfl
    have hT : s.TypeIs (.ref z) "zip" := ⟨_, hz, rfl⟩
    unfold Builtin.SmallTypes.nextOf
    refine wpAny_bind (wpAny_callSpecial?_slot (name := Str.ofString "__next__") hT F.slot_zip_next (wpAny_call_entry F.slot_zip_next hT F.entry_zip_next ?_ (F.args_zip_next_1 _)))
    show wpAny _ _ (field (.ref z) 2 >>= _) _ _ _
    refine wpAny_bind (wpAny_field hz rfl (x := .bool false) rfl ?_)
    show wpAny _ _ (field (.ref z) 3 >>= _) _ _ _
    refine wpAny_bind (wpAny_field hz rfl (x := .ref TI) rfl ?_)
    refine wpAny_bind (wpAny_seqItems hTI rfl ?_)
    show wpAny _ _ (Builtin.SmallTypes.ownedTupleIsFree (.ref z) >>= _) _ _ _
    refine wpAny_bind (wpAny_mono (Q := fun b s' => b = false ∧ ∃ h₁, s' = { s with heap := h₁ } ∧ St mg mb B h₁ (ZL z TI TO i1 i2 l1 l2 k (some T₀) ++ ob)) ?_ (fun b s' hb => ?_) fun _ _ e => e)
    · unfold Builtin.SmallTypes.ownedTupleIsFree
      refine wpAny_bind (wpAny_field hz rfl (x := rawInt T₀) rfl ?_)
      show wpAny _ _ (loadIfAlive T₀ >>= _) _ _ _
      refine wpAny_bind (wpAny_loadIfAlive' ?_)
      rw [show s.heap.get? T₀ = some o₀ from S.keep _ _ ho₀]
      simp only [Option.isNone_some, Bool.false_eq_true, if_false]
      refine wpAny_bind (wpAny_field hz rfl (x := .bool bb) rfl ?_)
      cases bb with
      | true =>
        simp only [bne_self_eq_false, Bool.false_eq_true, if_false]
        exact wpAny_pure ⟨rfl, _, rfl, S⟩
      | false =>
        rw [if_pos (by decide)]
        refine wpAny_bind (wpAny_setField_rec hz (by simp) fun h₁ hz₁ hs₁ => wpAny_pure ⟨rfl, _, rfl, ?_⟩)
        exact S.same 0 (P' := zP TI TO (some T₀)) rfl hs₁ ⟨_, hz₁, true, rfl⟩
    obtain ⟨rfl, h₁, rfl, S₁⟩ := hb
    simp only [Bool.false_eq_true, if_false]
    refine wpAny_bind ?_
    rw [← Array.forIn_toList]
    simp only [List.forIn_cons, List.forIn_nil]
    refine wpAny_bind (wpAny_bind (wpAny_holding ?_))
    show wpAny _ _ (Builtin.SmallTypes.nextOf (.ref i1) >>= _) _ _ _
    refine wpAny_bind (litNextOf (A := A.in1) 3 S₁ rfl hl1 hx fun h₂ S₂ => wpAny_pure (wpAny_pure ?_))
    refine wpAny_bind (wpAny_bind (wpAny_holding ?_))
    show wpAny _ _ (Builtin.SmallTypes.nextOf (.ref i2) >>= _) _ _ _
    refine wpAny_bind (wpAny_nextOf_list_end (A := A.in1) hh (S₂.at 4 (a := i2) rfl).isIter (hl2.mono S₂.hp).isList (by simpa using hy) fun h₃ e he ho => h h₃ e ?_ ho)
    change St mg mb B h₂ (ZL z TI TO i1 i2 l1 l2 k (some T₀) |>.set 3 (i1, litP l1 (k + 1)) |> (· ++ ob)) at S₂
    have S₃ : St mg mb B h₂ ob := S₂.sub (List.sublist_append_right _ _)
    exact S₃.mv (s := { s with heap := h₂ }) (s' := { s with heap := h₃ }) (wr := [i2]) (gs := []) (fun b hb => hw b (by simp at hb; simp [hb])) (Mv.heap fun b o hb e => he b o (by simpa using hb) e)
  | none =>
    obtain ⟨oz, hz, rfl⟩ := S.at 0 (a := z) rfl
    obtain ⟨oTO, hTO, va, vb, rfl⟩ := S.at 2 (a := TO) rfl
    have hI1 := (S.at 3 (a := i1) rfl).isIter
    have hI2 := (S.at 4 (a := i2) rfl).isIter
    have hL1 := (hl1.mono S.hp).isList
    have hL2 := (hl2.mono S.hp).isList
    have offl : ∀ b ∈ (ZL z TI TO i1 i2 l1 l2 k none).map (·.1), l1 ≠ b ∧ l2 ≠ b := fun b hb => by
      have hno := offB b hb
      obtain ⟨o1, ho1, _⟩ := hl1
      obtain ⟨o2, ho2, _⟩ := hl2
      exact ⟨fun e => hno o1 (e ▸ ho1), fun e => hno o2 (e ▸ ho2)⟩
    have hz' := offl z (by simp [ZL])
    have hTO' := offl TO (by simp [ZL])
    have hi1' := offl i1 (by simp [ZL])
    have hi2' := offl i2 (by simp [ZL])
    have dz' : ([z, TI, TO, i1, i2] : List Addr).Nodup := dz
    simp only [List.nodup_cons, List.mem_cons, List.not_mem_nil, or_false, not_or, not_false_eq_true, List.nodup_nil, and_true] at dz'
    obtain ⟨⟨z1, z2, z3, z4⟩, ⟨t1, t2, t3⟩, ⟨o1, o2⟩, j1⟩ := dz'
    have D : ZipApart z TI TO i1 i2 l1 l2 := ⟨Ne.symm z1, Ne.symm z2, Ne.symm z3, Ne.symm z4, t1, t2, t3, o1, o2, j1, hz'.1, hTO'.1, hi1'.1, hi2'.1, hz'.2, hTO'.2, hi1'.2, hi2'.2⟩
    have hT : s.TypeIs (.ref z) "zip" := ⟨_, hz, rfl⟩
    unfold Builtin.SmallTypes.nextOf
    refine wpAny_bind (wpAny_callSpecial?_slot (name := Str.ofString "__next__") hT F.slot_zip_next (wpAny_call_entry F.slot_zip_next hT F.entry_zip_next
      (zip_next_end (A := A.in1) hh D hz hTI hTO hI1 hI2 hL1 hL2 (.inr (by simpa using hy)) fun h' e a7 ho => h h' e ?_ ho) (F.args_zip_next_1 _)))
    exact S₀.mv (s' := { s with heap := h' }) (wr := [z, TO, i1, i2]) (gs := []) hw (Mv.heap fun b o hb e => a7 b o (fun e' => hb (by simp [e'])) (fun e' => hb (by simp [e'])) (fun e' => hb (by simp [e'])) (fun e' => hb (by simp [e'])) e)

/-- a turn of enumerate over zip -/
theorem enumZip_next {e z TI TO i1 i2 l1 l2 : Addr} {k : Nat} {f : Option Addr} {xs ys : List Value} {x y old : Value} {elts : List PySem.Expr} {kt : Nat} {pos : Pos} {Q : Value → Shared → Prop} {D : Shared → Prop}
    (S : St mg mb B s.heap (ZL z TI TO i1 i2 l1 l2 k f ++ ((e, enX z k .none old) :: ob))) (hf : ∀ T, f = some T → ∃ o, B T o)
    (hl1 : Lst B l1 xs) (hl2 : Lst B l2 ys) (hx : xs[k]? = some x) (hy : ys[k]? = some y)
    (h : ∀ T R u h' tk f' old', (f' = some T ∨ (f' = f ∧ f ≠ none)) → St mg mb B h' (ZL z TI TO i1 i2 l1 l2 (k + 1) f' ++ ((e, enX z ((k + 1 : Nat) : Int) .none old') :: (ob ++ [(T, tupP [x, y]), (R, tupP [.int k u, .ref T])]))) → Q (.ref R) { s with heap := h', toks := tk }) :
    wpAny (model prog w) A (pyNext (.ref e)) (fun r s₁ => match r with
      | none => D s₁
      | some v => wpAny (model prog w) A (letOwnedTupleGo (.Tuple elts kt pos) (.ref e) v) (fun _ s₂ => Q v s₂) E s₁) E s := by
  obtain ⟨oe, he, rfl⟩ := S.at 5 (a := e) rfl
  have hT : s.TypeIs (.ref e) "enumerate" := ⟨_, he, rfl⟩
  unfold pyNext
  refine wpAny_bind (wpAny_attempt (wpAny_callSpecial?_slot (name := Str.ofString "__next__") hT F.slot_enumerate_next
    (wpAny_call_entry F.slot_enumerate_next hT F.entry_enumerate_next ?_ (F.args_enumerate_next_1 _))))
  obtain ⟨hp, g, dr, tk₀, os⟩ := s
  show wpAny _ _ (field (.ref e) 2 >>= _) _ _ _
  refine wpAny_bind (wpAny_field he rfl (x := .ref z) rfl ?_)
  refine wpAny_bind (zipNextOf (A := A.in1) S hf hl1 hl2 hx hy fun T h₁ f' hf' S₁ => ?_)
  obtain ⟨oe₁, he₁, rfl⟩ := S₁.at 5 (a := e) rfl
  show wpAny _ _ (field (.ref e) 3 >>= _) _ _ ⟨h₁, g, dr, tk₀, os⟩
  refine wpAny_bind (wpAny_field he₁ rfl (x := rawInt k) rfl ?_)
  show wpAny _ _ (field (.ref e) 4 >>= _) _ _ ⟨h₁, g, dr, tk₀, os⟩
  refine wpAny_bind (wpAny_field he₁ rfl (x := .none) rfl ?_)
  show wpAny _ _ (mkInt k >>= _) _ _ ⟨h₁, g, dr, tk₀, os⟩
  refine wpAny_bind (wpAny_mkInt ?_)
  show wpAny _ _ (setField (.ref e) 3 (rawInt ((k : Int) + 1)) >>= _) _ _ ⟨h₁, g, dr, tk₀ + 1, os⟩
  have ek : ((k : Int) + 1) = ((k + 1 : Nat) : Int) := by push_cast; rfl
  rw [ek]
  refine wpAny_bind (wpAny_setField_rec he₁ (by simp) fun h₂ he₂ hs₂ => ?_)
  have S₂ := S₁.same 5 (P' := enX z ((k + 1 : Nat) : Int) .none old) rfl hs₂ ⟨_, he₂, rfl⟩
  obtain ⟨oe₂, he₂, rfl⟩ := S₂.at 5 (a := e) rfl
  show wpAny _ _ (setField (.ref e) 4 .none >>= _) _ _ ⟨h₂, g, dr, tk₀ + 1, os⟩
  refine wpAny_bind (wpAny_setField_rec he₂ (by simp) fun h₃ he₃ hs₃ => ?_)
  have S₃ := S₂.same 5 (P' := enX z ((k + 1 : Nat) : Int) .none old) rfl hs₃ ⟨_, he₃, rfl⟩
  show wpAny _ _ (newTuple [.int k tk₀, .ref T] >>= _) _ _ ⟨h₃, g, dr, tk₀ + 1, os⟩
  refine wpAny_bind (newTuple_ (A := A.in1) (s := ⟨h₃, g, dr, tk₀ + 1, os⟩) S₃ (by rw [sizeLine_eq]; show 2 ≤ 16777216; decide) fun R h₄ S₄ => ?_)
  change St mg mb B h₄ (ZL z TI TO i1 i2 l1 l2 (k + 1) f' ++ ((e, enX z ((k + 1 : Nat) : Int) .none old) :: (ob ++ [(T, tupP [x, y])])) ++ [(R, tupP [.int k tk₀, .ref T])]) at S₄
  obtain ⟨oe₄, he₄, rfl⟩ := S₄.at 5 (a := e) rfl
  show wpAny _ _ (Builtin.SmallTypes.ownedTupleIsFree (.ref e) >>= _) _ _ ⟨h₄, g, dr, tk₀ + 1, os⟩
  refine wpAny_bind ?_
  unfold Builtin.SmallTypes.ownedTupleIsFree
  refine wpAny_bind (wpAny_field he₄ rfl (x := .none) rfl (wpAny_pure ?_))
  simp only [if_true]
  refine wpAny_bind (wpAny_rule ?_)
  refine wpAny_bind (wpAny_field he₄ rfl (x := old) rfl ?_)
  refine wpAny_bind (wpAny_setField_rec he₄ (by simp) fun h₅ he₅ hs₅ => ?_)
  have S₅ := S₄.same 5 (P' := enX z ((k + 1 : Nat) : Int) .none (.ref T)) rfl hs₅ ⟨_, he₅, rfl⟩
  show wpAny _ _ (Builtin.SmallTypes.ownedTupleHandOut (.ref e) (.ref R) >>= _) _ _ ⟨h₅, g, dr, tk₀ + 1, os⟩
  refine wpAny_bind ?_
  unfold Builtin.SmallTypes.ownedTupleHandOut
  obtain ⟨oe₅, he₅, rfl⟩ := S₅.at 5 (a := e) rfl
  refine wpAny_bind (wpAny_setField_rec he₅ (by simp) fun h₆ he₆ hs₆ => ?_)
  have S₆ := S₅.same 5 (P' := enX z ((k + 1 : Nat) : Int) (rawInt R) (.ref T)) rfl hs₆ ⟨_, he₆, rfl⟩
  obtain ⟨oe₆, he₆, rfl⟩ := S₆.at 5 (a := e) rfl
  refine wpAny_setField_rec he₆ (by simp) fun h₇ he₇ hs₇ => ?_
  have S₇ := S₆.same 5 (P' := enX z ((k + 1 : Nat) : Int) (rawInt R) (.ref T)) rfl hs₇ ⟨_, he₇, rfl⟩
  refine wpAny_bind (wpAny_letGo (wpAny_pure ⟨_, rfl, wpAny_pure ?_⟩))
  obtain ⟨oe₇, he₇, rfl⟩ := S₇.at 5 (a := e) rfl
  show wpAny _ _ (letOwnedTupleGo (.Tuple elts kt pos) (.ref e) (.ref R)) _ _ ⟨h₇, g, dr, tk₀ + 1, os⟩
  refine wpAny_letOwnedTupleGo_enum (a := R) (it := z) (i := ((k + 1 : Nat) : Int)) (item := .ref T) he₇ fun h₈ he₈ hs₈ => ?_
  have S₈ := S₇.same 5 (P' := enX z ((k + 1 : Nat) : Int) .none (.ref T)) rfl hs₈ ⟨_, he₈, rfl⟩
  refine h T R tk₀ h₈ (tk₀ + 1) f' (.ref T) hf' ?_
  have e1 : ob ++ [(T, tupP [x, y]), (R, tupP [.int k tk₀, .ref T])] = (ob ++ [(T, tupP [x, y])]) ++ [(R, tupP [.int k tk₀, .ref T])] := by simp
  rw [e1]
  exact S₈

theorem enumZip_end {e z TI TO i1 i2 l1 l2 : Addr} {k : Nat} {f : Option Addr} {xs ys : List Value} {x old : Value} {Q : Option Value → Shared → Prop} (hh : A.handled = none)
    (S : St mg mb B s.heap (ZL z TI TO i1 i2 l1 l2 k f ++ ((e, enX z k .none old) :: ob))) (hf : ∀ T, f = some T → ∃ o, B T o)
    (hl1 : Lst B l1 xs) (hl2 : Lst B l2 ys) (hx : xs[k]? = some x) (hy : ys[k]? = none) (h : ∀ h', St mg mb B h' ob → Q none { s with heap := h' }) :
    wpAny (model prog w) A (pyNext (.ref e)) Q E s := by
  obtain ⟨oe, he, rfl⟩ := S.at 5 (a := e) rfl
  have hT : s.TypeIs (.ref e) "enumerate" := ⟨_, he, rfl⟩
  unfold pyNext
  refine wpAny_bind (wpAny_attempt (wpAny_callSpecial?_slot (name := Str.ofString "__next__") hT F.slot_enumerate_next
    (wpAny_call_entry F.slot_enumerate_next hT F.entry_enumerate_next ?_ (F.args_enumerate_next_1 _))))
  show wpAny _ _ (field (.ref e) 2 >>= _) _ _ _
  refine wpAny_bind (wpAny_field he rfl (x := .ref z) rfl ?_)
  refine wpAny_bind (zipNextEnd (A := A.in1) hh S hf hl1 hl2 hx hy fun h' x S' hx' => ?_)
  obtain ⟨o, ho, hc⟩ := hx'
  refine wpAny_bind (wpAny_isInstance (T := "StopIteration") (b := true) ⟨o, ho, hc⟩ isSubtype_stop ?_)
  exact wpAny_pure (h h' (S'.sub (List.sublist_cons_self _ _)))
/-- enumerate over zip, made -/
theorem enumZip_make {l1 l2 : Addr} {xs ys : List Value} {Q : Value → Shared → Prop} (S : St mg mb B s.heap ob) (hl1 : Lst B l1 xs) (hl2 : Lst B l2 ys)
    (h : ∀ e z TI TO i1 i2 h', St mg mb B h' (ZL z TI TO i1 i2 l1 l2 0 none ++ ((e, enX z ((0 : Nat) : Int) .none .none) :: ob)) → Q (.ref e) { s with heap := h' }) :
    wpAny (model prog w) A (call (.type "zip") [.ref l1, .ref l2]) (fun x s₁ => wpAny (model prog w) A (call (.type "enumerate") [x]) Q E s₁) E s := by
  refine call_zip_2 (hl1.mono S.hp).isList (hl2.mono S.hp).isList fun h₁ hz hTI hTO hi1 hi2 hsz hk => ?_
  generalize hn : s.heap.objs.size = n at *
  have above : ∀ b, n ≤ b → ∀ o, ¬ B b o := fun b hb o e => absurd (Heap.lt_size (S.keep b o e)) (by rw [hn]; exact Nat.not_lt.mpr hb)
  have S₁ : St mg mb B h₁ (ZL (n + 4) (n + 2) (n + 3) n (n + 1) l1 l2 0 none ++ ob) := by
    refine ⟨S.wd, fun b o e => hk b o (S.keep b o e), fun p hp => ?_, ?_⟩
    · rcases List.mem_append.mp hp with hp | hp
      · simp only [ZL, List.mem_cons, List.not_mem_nil, or_false] at hp
        rcases hp with rfl | rfl | rfl | rfl | rfl
        · exact ⟨⟨_, hz, rfl⟩, above _ (Nat.le_add_right ..)⟩
        · exact ⟨⟨_, hTI, rfl⟩, above _ (Nat.le_add_right ..)⟩
        · exact ⟨⟨_, hTO, _, _, rfl⟩, above _ (Nat.le_add_right ..)⟩
        · exact ⟨hi1, above _ (Nat.le_refl _)⟩
        · exact ⟨hi2, above _ (Nat.le_add_right ..)⟩
      · exact ⟨(S.own p hp).1.keep fun o => hk _ o, (S.own p hp).2⟩
    · rw [List.map_append, List.nodup_append]
      refine ⟨?_, S.dis, fun a ha b hb e => ?_⟩
      · show ([n + 4, n + 2, n + 3, n, n + 1] : List Nat).Nodup
        simp
      · subst e
        obtain ⟨o, ho⟩ := S.there hb
        have h1 := Heap.lt_size ho
        rw [hn] at h1
        have h2 : n ≤ a := by
          simp only [ZL, List.map_cons, List.map_nil, List.mem_cons, List.not_mem_nil, or_false] at ha
          rcases ha with rfl | rfl | rfl | rfl | rfl
          · exact Nat.le_add_right ..
          · exact Nat.le_add_right ..
          · exact Nat.le_add_right ..
          · exact Nat.le_refl _
          · exact Nat.le_add_right ..
        exact absurd h1 (Nat.not_lt.mpr h2)
  refine callType_new F.called_enumerate (by decide) (F.typeCall_enumerate_1 _) (F.newCall_enumerate_1 _) (fun obj => F.args_object_init_2 obj _) F.entry_enumerate_new
    (meets_enumerate_newZ (n + 4) (n + 2) (n + 3)) ⟨hz, ?_⟩
  have S₂ := S₁.push (o := { cls := .type "enumerate", data := .fields #[.none, .bool false, .ref (n + 4), rawInt 0, .none, .none] }) (enX (n + 4) ((0 : Nat) : Int) .none .none) rfl
  refine ⟨⟨_, Heap.get?_push_size _ rfl, rfl⟩, h h₁.objs.size (n + 4) (n + 2) (n + 3) n (n + 1) _ (S₂.perm ?_)⟩
  rw [List.append_assoc]
  exact List.Perm.append_left _ List.perm_append_comm
end
end Mine
end
/-! ## F25 -/
section
set_option maxRecDepth 100000
set_option maxHeartbeats 4000000
open PySem PySem.Calls PySem.W PyProof.Rows
open PySem.SeqAt PySem.MeetsSeq
namespace Mine
section
variable {prog : Program} {w : World} {A : Around} {E : Value → Shared → Prop} {s : Shared} {mg mb : Str → Option Value} {B : Rl} {ob : Ob} {env : Env} {L : Addr} {names : List Str} {cells : List (Str × Addr)} {globs : List Str}
/-- a built-in type by name, two arguments -/
theorem tcall2 {x : Str} {id : String} {e₁ e₂ : PySem.Expr} {fp pos : Pos} {Q : Value → Shared → Prop} (S : St mg mb B s.heap ob) (V : Ev env L names cells globs) (hx : x ∈ globs) (hu : x ∈ builtinsUsed) (hv : bootBuiltins x = some (.type id))
    (h : wpAny (model prog w) A (eval e₁ env) (fun v₁ s₁ => wpAny (model prog w) A (eval e₂ env) (fun v₂ s₂ => wpAny (model prog w) A (call (.type id) [v₁, v₂]) Q E s₂) E s₁) E s)
    (he : eval (.Call (.Name x fp) [e₁, e₂] [] pos) env = (do callWith pos (← eval (.Name x fp) env) [] (backTo pos (starEach [e₁, e₂] env)) (backToKw pos (keywordEach [] env))) := by rfl)
    (he₁ : backTo pos (starEach [e₁, e₂] env) = [(false, eval e₁ env), (false, eval e₂ env)] := by rfl) (hd : (x == ("__debug__" : Str)) = false := by decide) : wpAny (model prog w) A (eval (.Call (.Name x fp) [e₁, e₂] [] pos) env) Q E s := by
  refine Call_ (ldb S V hx hu hv ?_ hd) he
  rw [he₁]
  exact callWith_excType rfl (evalArgs_plain (spliced_cons (wpAny_mono h (fun v₁ s₁ q => spliced_cons (wpAny_mono q (fun v₂ s₂ q => spliced_nil q) fun _ _ e => e)) fun _ _ e => e)))
/-- a method of an own list, one argument -/
theorem lmeth1 {o elt : PySem.Expr} {name : Str} {id : String} {apos pos : Pos} {Q : Value → Shared → Prop} (slot : Slot "list" name id) (hty : typeOf (.builtin id) = pure (.type "method_descriptor"))
    (h : wpAny (model prog w) A (eval o env) (fun ov s₁ => ∃ D xs, ov = .ref D ∧ At s₁.heap D (listP xs) ∧ wpAny (model prog w) A (eval elt env) (fun y s₂ => wpAny (model prog w) A (call (.builtin id) [.ref D, y]) Q E s₂) E s₁) E s)
    (hbase : attributeBase o name env (eval o env) = eval o env)
    (hfew : ((backTo pos (starEach [elt] env)).all (fun x => !x.1) && (backToKw pos (keywordEach [] env)).all (fun x => x.1.isSome)
      && decide (([elt] : List PySem.Expr).length + ([] : List Keyword).length + (if ([] : List Keyword).isEmpty then 0 else 1) < 30)) = true := by rfl)
    (hline : (apos.endLine == pos.line) = true := by rfl)
    (htrees : backTo pos (starEach [elt] env) = [(false, eval elt env)] := by rfl) :
    wpAny (model prog w) A (eval (.Call (.Attribute o name apos) [elt] [] pos) env) Q E s := by
  refine wpAny_Call_method hbase hfew hline F.plainAttrs_list slot hty (wpAny_mono h (fun ov s₁ q => ?_) fun _ _ e => e)
  obtain ⟨D, xs, rfl, hD, hq⟩ := q
  refine ⟨hD.isList.typeIs, fun a e => ?_, ?_⟩
  · cases e
    obtain ⟨o, ho, _, hd, _⟩ := hD
    exact ⟨o, ho, hd⟩
  · rw [htrees]
    exact callWith_builtin rfl (evalArgs_plain (spliced_cons (wpAny_mono hq (fun y s₂ h₂ => spliced_nil h₂) fun _ _ e => e)))

/-- the block of a comprehension over any own iterator -/
theorem comp_blockX {elt target iter : PySem.Expr} {ifs : List PySem.Expr} {rest : List Comprehension} {scope : Scope} {pos : Pos} {cells' : List (Str × Addr)} {nm gl : List Str} {I : Addr} {K : Value → Addr → Result → Shared → Prop} (V : Ev env L names cells globs) (hs : ∀ p ∈ cells', p ∈ cells) (ok : compOk scope nm (cells'.map (·.1)) gl = true)
    (S : St mg mb B s.heap ob)
    (self : ∀ h₁ tk D C (Q : Value → Shared → Prop) (E : Value → Shared → Prop), St mg mb B h₁ (ob ++ [(D, listP []), (C, nsP nm (lvN nm))]) → Q (.ref I) { s with heap := h₁, toks := tk } → wpAny (model prog w) A (pyIter (.ref I)) Q E { s with heap := h₁, toks := tk })
    (h : ∀ D C cenv h₁ tk, Ev cenv C nm cells' gl → St mg mb B h₁ (ob ++ [(D, listP []), (C, nsP nm (lvN nm))]) →
      codeAny (model prog w) A (.compLoop (.ListComp elt (⟨target, iter, ifs, 0⟩ :: rest) scope pos) 0 (.ref I) (.ref D) cenv) (K (.ref D) C) { s with heap := h₁, toks := tk }) :
    wpAny (model prog w) A (newList []) (fun acc s₃ => wpAny (model prog w) A (newFunctionEnv scope env.globals (closG env scope.names []) [] env.qual none .none (some env)) (fun cenv s₄ =>
      codeAny (model prog w) A (.compStart (.ListComp elt (⟨target, iter, ifs, 0⟩ :: rest) scope pos) 0 (.ref I) acc { cenv with scope := relabel scope env }) (K acc cenv.locals) s₄) E s₃) E s := by
  have hE := (ev_comp V hs ok).2
  have hkind : scope.kind = .function := (hE 0).kind
  have hcell : ∀ x ∈ scope.names, x.2 ≠ .cell := by
    simp only [compOk, Bool.and_eq_true, Bool.or_eq_true, decide_eq_true_eq, List.all_eq_true] at ok
    exact fun x hx => (ok.2 x hx).1.1
  refine wpAny_newList ?_ (by rw [sizeLine_eq]; decide)
  refine wpAny_newFunctionEnv hcell (by intro y hy; simp at hy) (fun h₁ hns₁ hsb₁ => ?_) hkind
  have S₁ := S.push (o := { cls := .type "list", data := .seq ([] : List Value).toArray }) (listP []) ⟨rfl, rfl, 0, rfl⟩
  generalize hH2 : s.heap.push { cls := .type "list", data := .seq ([] : List Value).toArray } = H2 at hns₁ hsb₁ S₁ ⊢
  have keep₂ : ∀ b o, H2.get? b = some o → h₁.get? b = some o := fun b o e => hsb₁.extBut b o (Nat.ne_of_lt (Heap.lt_size e)) (Heap.get?_push_of_some _ e)
  have S₂ : St mg mb B h₁ (ob ++ [(s.heap.objs.size, listP []), (H2.objs.size, nsP nm (lvN nm))]) := by
    have := S₁.add (a := H2.objs.size) (P := nsP nm (lvN nm)) keep₂ (At.of_ns hns₁ fun i x v _ e => by
      simp only [lvN, List.getElem?_replicate] at e
      split at e <;> simp at e) (no_size (Nat.le_refl _))
    simpa [List.append_assoc] using this
  have loop := h s.heap.objs.size H2.objs.size (compEnvC scope (closG env scope.names []) H2.objs.size env) h₁ (s.toks + ([] : List (Str × Value)).length) (hE _) S₂
  exact codeAny_compStart_list loop (self _ _ _ _ _ _ S₂ loop)

/-- is the list empty -/
theorem eqNil_ {l b : Addr} {xs : List Value} {Q : Value → Shared → Prop} (hl : s.heap.IsList l xs.toArray) (hb : s.heap.IsList b ([] : List Value).toArray) (hu : A.units < cLine) (h : Q (.bool (decide (xs = []))) s) :
    wpAny (model prog w) A (compareOp .Eq (.ref l) (.ref b)) Q E s := by
  by_cases hx : xs = []
  · subst hx
    refine eq_listAt (e := fun _ => true) hl hb rfl hu (fun j h1 => by simp at h1) ?_
    simpa using h
  · refine eq_list_lengthsAt hl hb (by simpa using hx) hu ?_
    rw [decide_eq_false hx] at h
    exact h
end

abbrev mN : List Str := ["units", "row", "turn", "found", "rank", "place"]
abbrev mcN : List Str := ["k", "pair"]
def mlFound : Stmt := match (defAt 13).body with
  | _ :: .For _ _ (x :: _) _ _ :: _ => x
  | _ => .Pass ⟨0, 0, 0, 0⟩
section
variable {prog : Program} {w : World} {A : Around} {E : Value → Shared → Prop} {s : Shared} {mg mb : Str → Option Value} {B : Rl} {ob : Ob} {env : Env}
/-- the comprehension of what is found -/
theorem melted_comp {rs : List (Int × Int)} {cur : List Int} {lu lr L c row itk : Addr} {vs : List Value} {Pk : Th} {turnv : Option Value} {Q : Flow → Shared → Prop} (hh : A.handled = none) (hu : A.units + 40 < cLine) (hrl : rs.length ≤ 100) (V : Ev env L mN [("rules", c)] ["range", "len", "enumerate", "zip", "min"])
    (S : St mg mb B s.heap [(L, nsP mN [some (.ref lu), some (.ref row), turnv, none, none, none]), (c, cellP (some (.ref lr))), (itk, Pk)]) (hrow : Lst B row vs) (hvs : IntsAre vs cur) (hr : Pairs B lr rs) (hne : cur ≠ []) (hcl : cur.length ≤ 1000)
    (h : ∀ s' D ys B', Sub B B' → St mg mb B' s'.heap [(L, nsP mN [some (.ref lu), some (.ref row), turnv, some (.ref D), none, none]), (c, cellP (some (.ref lr))), (itk, Pk), (D, listP ys)] → Prs B' ys (fnd rs cur (cur.length - 1)) → Side s s' → Q .next s') :
    wpAny (model prog w) A (exec mlFound env) Q E s := by
  have hvl : vs.length = cur.length := hvs.length
  refine comp_asg (nm := mcN) (gl := []) 0 3 V rfl (cells' := [("rules", c)]) (fun p hp => hp) (show compOk _ mcN ["rules"] [] = true by decide +kernel) ?_ rfl (by decide +kernel)
  refine tcall1 (id := "enumerate") S V (by decide) (by decide) (by rfl) (tcall2 (id := "zip") S V (by decide) (by decide) (by rfl) (ldl 0 1 S V rfl rfl rfl (slice_ (mg := mg) (mb := mb) (ldl 0 1 S V rfl rfl rfl (wpAny_evalPart_some (wpAny_Constant_int (wpAny_pure ⟨row, vs, _, _, rfl, (hrow.mono S.hp).isList, by omega, .int _ _, .none, _, _, S, fun D₂ h₂ S₂ => ?_⟩)))))))
  rw [show ((some (1 : Int)) : Option Int) = some ((1 : Nat) : Int) from rfl, pickFrom] at S₂
  obtain ⟨S₃, hB₃, hab⟩ := St.absorb S₂
  obtain ⟨oD, hoD, hpD⟩ := hab D₂ _ (.head _)
  have hl2 : Lst _ D₂ (vs.drop 1) := ⟨oD, hoD, hpD⟩
  have hl1 := hrow.mono hB₃
  have hr₃ := hr.mono hB₃
  generalize Mx [(L, nsP mN [some (.ref lu), some (.ref row), turnv, none, none, none]), (c, cellP (some (.ref lr))), (itk, Pk)] h₂ = B₃ at S₃ hB₃ hl2 hl1 hr₃
  refine enumZip_make S₃ hl1 hl2 fun e z TI TO i1 i2 h₄ S₄ => ?_
  obtain ⟨oe, hoe, rfl⟩ := S₄.at 5 (a := e) rfl
  refine wpAny_pyIter_enum (it := z) hoe ?_
  refine comp_blockX (cells' := [("rules", c)]) (nm := mcN) (gl := []) V (fun p hp => hp) (show compOk _ mcN ["rules"] [] = true by decide +kernel) S₄ (fun h₁ tk D C Q E S₅ hQ => ?_) fun D C cenv h₅ tk₅ V₅ S₅ => ?_
  · obtain ⟨oe, hoe, rfl⟩ := S₅.at 5 (a := e) rfl
    exact wpAny_pyIter_enum (it := z) hoe hQ
  refine compLoop_any (fun n s' => ∃ i f ys old B', n = (cur.length - 1) - i ∧ i ≤ cur.length - 1 ∧ St mg mb B' s'.heap (ZL z TI TO i1 i2 row D₂ i f ++ ((e, enX z i .none old) :: [(L, nsP mN [some (.ref lu), some (.ref row), turnv, none, none, none]), (c, cellP (some (.ref lr))), (itk, Pk), (D, listP ys), (C, nsP mcN (lvN mcN))])) ∧
    (∀ T, f = some T → ∃ o, B' T o) ∧ Sub B₃ B' ∧ Prs B' ys (fnd rs cur i) ∧ ys.length ≤ i ∧ Side s s') ?_ (cur.length - 1)
    ⟨0, none, [], .none, B₃, rfl, Nat.zero_le _, S₅, fun _ h => (nomatch h), Sub.refl _, Prs.nil _, Nat.le_refl _, Side.refl s⟩
  rintro n s₆ ⟨i, f, ys, old, B', rfl, hi, S₆, hf, hB', hp, hyl, sd₆⟩ E₆
  have hl1' := hl1.mono hB'
  have hl2' := hl2.mono hB'
  obtain ⟨x, hx⟩ : ∃ x, cur[i]? = some x := ⟨_, List.getElem?_eq_getElem (by have := List.length_pos_iff.mpr hne; omega)⟩
  obtain ⟨tx, hvx⟩ := hvs.get _ _ hx
  by_cases hlt : i < cur.length - 1
  · obtain ⟨y, hy⟩ : ∃ y, cur[i + 1]? = some y := ⟨_, List.getElem?_eq_getElem (by omega)⟩
    obtain ⟨ty, hvy⟩ := hvs.get _ _ hy
    refine enumZip_next S₆ hf hl1' hl2' hvx (y := .int y ty) (by rw [List.getElem?_drop, Nat.add_comm]; exact hvy) fun T R u h₇ tk₇ f' old' hf' S₇ => ?_
    have S₇' : St mg mb B' h₇ ((ZL z TI TO i1 i2 row D₂ (i + 1) f' ++ ((e, enX z ((i + 1 : Nat) : Int) .none old') :: [(L, nsP mN [some (.ref lu), some (.ref row), turnv, none, none, none]), (c, cellP (some (.ref lr))), (itk, Pk), (D, listP ys), (C, nsP mcN (lvN mcN))])) ++ [(T, tupP [.int x tx, .int y ty]), (R, tupP [.int i u, .ref T])]) := by
      rw [List.append_assoc]
      exact S₇
    obtain ⟨S₈, hB₈, hab₈⟩ := St.absorb S₇'
    obtain ⟨oT, hoT, hpT⟩ := hab₈ T _ (.head _)
    obtain ⟨oR, hoR, hpR⟩ := hab₈ R _ (.tail _ (.head _))
    generalize Mx (ZL z TI TO i1 i2 row D₂ (i + 1) f' ++ ((e, enX z ((i + 1 : Nat) : Int) .none old') :: [(L, nsP mN [some (.ref lu), some (.ref row), turnv, none, none, none]), (c, cellP (some (.ref lr))), (itk, Pk), (D, listP ys), (C, nsP mcN (lvN mcN))])) h₇ = B₈ at S₈ hB₈ hoT hoR
    have hf₈ : ∀ T', f' = some T' → ∃ o, B₈ T' o := fun T' e' => by
      rcases hf' with h | ⟨h, _⟩
      · rw [h] at e'; cases e'; exact ⟨oT, hoT⟩
      · obtain ⟨o, ho⟩ := hf T' (h ▸ e'); exact ⟨o, hB₈ _ _ ho⟩
    have tupR : Tup B₈ R [.int i u, .ref T] := ⟨oR, hoR, hpR⟩
    have tupT : Tup B₈ T [.int x tx, .int y ty] := ⟨oT, hoT, hpT⟩
    refine asg2 10 0 1 S₈ V₅ hh (tupR.mono S₈.hp).isTup rfl rfl rfl fun h₉ tk₉ S₉ => ?_
    change St mg mb B₈ h₉ (ZL z TI TO i1 i2 row D₂ (i + 1) f' ++ ((e, enX z ((i + 1 : Nat) : Int) .none old') :: [(L, nsP mN [some (.ref lu), some (.ref row), turnv, none, none, none]), (c, cellP (some (.ref lr))), (itk, Pk), (D, listP ys), (C, nsP mcN [some (.int i u), some (.ref T)])])) at S₉
    refine wpAny_tests_one (wpAny_isTrue_Compare1 (ldl 10 1 S₉ V₅ rfl rfl rfl (ldc 7 0 S₉ V₅ rfl rfl ?_)))
    refine inRules_ (p := (x, y)) (hr₃.mono (hB'.trans hB₈)) S₉.hp (tupT.mono S₉.hp).isTup (by omega) (wpAny_truthy_bool ?_)
    have hat : at2 cur i = some (x, y) := by unfold at2; rw [hx, hy]
    by_cases hm : (x, y) ∈ rs
    · rw [decide_eq_true hm]
      simp only [if_true]
      have hfn : fnd rs cur (i + 1) = fnd rs cur i ++ [(((rs.idxOf (x, y) : Nat) : Int), (i : Int))] := by
        rw [fnd_succ]; simp [fnd1, hat, hm]
      obtain ⟨orl, horl, hprl⟩ : ∃ o, s₆.heap.get? lr = some o ∧ ∃ xs, listP xs o := by
        obtain ⟨ts, ⟨o, ho, hp⟩, _⟩ := hr₃
        exact ⟨o, S₆.keep _ _ (hB' _ _ ho), _, hp⟩
      obtain ⟨ts, ⟨ol, hol, hpl⟩, _⟩ := id hr₃
      refine Tuple_ (args_cons (lmeth1 F.slot_list_index F.type_list_index (ldc 7 0 S₉ V₅ rfl rfl ⟨lr, _, rfl, ⟨ol, S₉.keep _ _ (hB₈ _ _ (hB' _ _ hol)), hpl⟩, ldl 10 1 S₉ V₅ rfl rfl rfl ?_⟩) rfl))
      refine indexRules_ (p := (x, y)) (hr₃.mono (hB'.trans hB₈)) S₉.hp (tupT.mono S₉.hp).isTup (by omega) hm (by omega) fun t tk₁₀ => ?_
      refine args_cons (ldl 10 0 (s := { s₆ with heap := h₉, toks := tk₁₀ }) S₉ V₅ rfl rfl rfl (args_nil ?_))
      refine newTuple_ (s := { s₆ with heap := h₉, toks := tk₁₀ }) S₉ (by rw [sizeLine_eq]; show 2 ≤ 16777216; decide) fun T₂ h₁₁ S₁₁ => ?_
      refine append_ 9 S₁₁ rfl (by rw [sizeLine_eq]; omega) fun h₁₂ S₁₂ => ?_
      obtain ⟨S₁₃, hB₁₃, hab₁₃⟩ := St.absorb (ob := ZL z TI TO i1 i2 row D₂ (i + 1) f' ++ ((e, enX z ((i + 1 : Nat) : Int) .none old') :: [(L, nsP mN [some (.ref lu), some (.ref row), turnv, none, none, none]), (c, cellP (some (.ref lr))), (itk, Pk), (D, listP (ys ++ [.ref T₂])), (C, nsP mcN (lvN mcN))])) (tl := [(T₂, tupP [.int (rs.idxOf (x, y) : Nat) t, .int i u])])
        (S₁₂.wk 10 rfl (nsP.weak (lv' := lvN mcN) ⟨.inl rfl, .inl rfl, trivial⟩))
      obtain ⟨oT₂, hoT₂, hpT₂⟩ := hab₁₃ T₂ _ (.head _)
      refine ⟨(cur.length - 1) - (i + 1), by omega, i + 1, f', ys ++ [.ref T₂], old', _, rfl, by omega, S₁₃, fun T' e' => let ⟨o, ho⟩ := hf₈ T' e'; ⟨o, hB₁₃ _ _ ho⟩, (hB'.trans hB₈).trans hB₁₃, ?_, by simp; omega, sd₆⟩
      rw [hfn]
      exact (hp.mono (hB₈.trans hB₁₃)).snoc (p := (((rs.idxOf (x, y) : Nat) : Int), (i : Int))) ⟨oT₂, hoT₂, hpT₂⟩
    · rw [decide_eq_false hm]
      simp only [Bool.false_eq_true, if_false]
      have hfn : fnd rs cur (i + 1) = fnd rs cur i := by
        rw [fnd_succ]; simp [fnd1, hat, hm]
      have S₁₀ := S₉.wk 10 rfl (nsP.weak (lv' := lvN mcN) ⟨.inl rfl, .inl rfl, trivial⟩)
      exact ⟨(cur.length - 1) - (i + 1), by omega, i + 1, f', ys, old', B₈, rfl, by omega, S₁₀, hf₈, hB'.trans hB₈, by rw [hfn]; exact hp.mono hB₈, by omega, sd₆⟩
  · have hi' : i = cur.length - 1 := by omega
    refine enumZip_end hh S₆ hf hl1' hl2' hvx (by rw [List.getElem?_drop, List.getElem?_eq_none_iff]; omega) fun h₇ S₇ => ?_
    refine post_asg (ob := [(L, nsP mN [some (.ref lu), some (.ref row), turnv, none, none, none]), (c, cellP (some (.ref lr))), (itk, Pk)]) 0 3 V rfl rfl S₇ fun h₈ tk₈ S₈ => ?_
    rw [hi'] at hp
    exact h _ D ys B' (hB₃.trans hB') S₈ hp sd₆
end
end Mine
end
/-! ## F26 -/
section
set_option maxRecDepth 100000
set_option maxHeartbeats 4000000
open PySem PySem.Calls PySem.W PyProof.Rows
namespace Mine
section
variable {prog : Program} {w : World} {A : Around} {s : Shared} {mg mb : Str → Option Value}
theorem melted_ok {rs : List (Int × Int)} {us : List Int} {lu lr a : Addr} {R : Result → Shared → Prop} (W : Wd mg mb s.heap) (ha : mg (defAt 13).name = some (.ref a)) (hu : Ints (Hp s.heap) lu us) (hr : Pairs (Hp s.heap) lr rs) (hrl : rs.length ≤ 100)
    (hne : us ≠ []) (hlen : us.length ≤ 1000) (Rm : Room A 10 150) (h : ∀ s' r l, Goes s s' → Ints (New s s' []) r l → Melts rs us.length us l → R (.ok (.ret (.ref r))) s') :
    codeAny (model prog w) A (.call (.ref a) ⟨[.ref lu, .ref lr], []⟩) R s := by
  refine enterC (d := 8) (u := 140) 13 (by decide) ["units", "rules"] mN ["range", "len", "enumerate", "zip", "min"] (lv := [some (.ref lu), none, none, none, none, none]) W ha (Rm.le (by omega) (by omega)) (by decide +kernel) (fun _ _ _ => rfl) rfl (fun i x v hi hv => ?_) ?_
  · rcases i with _ | i
    · simp at hi hv; subst hi; subst hv; rfl
    · rcases i with _ | _ | _ | _ | _ | i <;> simp at hv
  intro L h₁ tk env A' E V Rm' S
  change Ev env L mN [("rules", L + 1)] _ at V
  change St mg mb _ h₁ [(L, nsP mN [some (.ref lu), none, none, none, none, none]), (L + 1, cellP (some (.ref lr)))] at S
  generalize L + 1 = c at V S
  obtain ⟨vu, hvu, hiu⟩ := id hu
  have hvul : vu.length = us.length := hiu.length
  refine wpAny_execs_cons (wpAny_Assign_Name (slice_ (mg := mg) (mb := mb) (ldl 0 0 S V rfl rfl rfl (wpAny_pure (wpAny_pure ⟨lu, vu, _, _, rfl, (hvu.mono S.hp).isList, by omega, .none, .none, _, _, S, fun row h₂ S₂ => stl 0 1 S₂ V rfl rfl fun h₃ S₃ => ?_⟩)))))
  rw [pickAll] at S₃
  change St mg mb _ h₃ [(L, nsP mN [some (.ref lu), some (.ref row), none, none, none, none]), (c, cellP (some (.ref lr))), (row, listP vu)] at S₃
  have hrow0 : s.heap.get? row = none := S₃.new (Sub.refl _) 2 rfl
  refine wpAny_execs_cons (wpAny_For (tcall1 (id := "range") S₃ V (by decide) (by decide) (by rfl) (bcall1 (id := "len") S₃ V (by decide) (by decide) (by rfl) (ldl 0 0 S₃ V rfl rfl rfl (lenL_ (hvu.mono S₃.hp).isList (by omega) fun t tk₄ => ?_)))))
  rw [hvul]
  refine range_ S₃ (by omega) fun it h₅ tk₅ S₅ hwr hfp hlow hI => ?_
  refine for_wk (Wk.range Rm'.hh it us.length _ _) s S₅ hwr hfp (Side.refl s) (fun _ hg => (nomatch hg)) hI
    (fun i ob X => ∃ cur vs, ob = [(L, nsP mN [some (.ref lu), some (.ref row), none, none, none, none]), (c, cellP (some (.ref lr))), (row, listP vs)] ∧ IntsAre vs cur ∧ (∀ l, Melts rs (us.length - i) cur l → Melts rs us.length us l) ∧ cur ≠ [] ∧ cur.length ≤ us.length)
    ⟨us, vu, rfl, hiu, fun l hl => hl, hne, Nat.le_refl _⟩ (fun i ob X Y k h => h) ?_ ?_
  · rintro i v B' ob₁ s₁ E₁ hi ⟨cur, vs, rfl, hvs, hmelt, hcne, hcl⟩ hB S₆ ⟨ti, rfl⟩ sd₁ hadr
    have hvsl : vs.length = cur.length := hvs.length
    change St mg mb B' s₁.heap [(L, nsP mN [some (.ref lu), some (.ref row), none, none, none, none]), (c, cellP (some (.ref lr))), (row, listP vs), (it, fun o => s₁.heap.get? it = some o)] at S₆
    refine assign_Name (stl 0 2 S₆ V rfl rfl fun h₇ S₇ => ?_)
    have S₈ : St mg mb B' h₇ ([(L, nsP mN [some (.ref lu), some (.ref row), some (.int i ti), none, none, none]), (c, cellP (some (.ref lr))), (it, fun o => s₁.heap.get? it = some o)] ++ [(row, listP vs)]) := S₇.perm (List.Perm.cons _ (List.Perm.cons _ (List.Perm.swap _ _ _)))
    have hrowB' : ∀ o, ¬ B' row o := (S₈.own (row, listP vs) (by simp)).2
    obtain ⟨S₉, hB₉, hab₉⟩ := St.absorb S₈
    obtain ⟨orow, horow, hprow⟩ := hab₉ row _ (.head _)
    generalize Mx [(L, nsP mN [some (.ref lu), some (.ref row), some (.int i ti), none, none, none]), (c, cellP (some (.ref lr))), (it, fun o => s₁.heap.get? it = some o)] h₇ = B₉ at S₉ hB₉ horow
    refine wpAny_execs_cons (melted_comp Rm'.hh (by have := Rm'.hu; omega) hrl V S₉ ⟨orow, horow, hprow⟩ hvs ((hr.mono hB).mono hB₉) hcne (by omega) fun s₁₀ D ys B₁₀ hB₁₀ S₁₀ hys sd₁₀ => ?_)
    refine wpAny_execs_cons (wpAny_If (wpAny_isTrue_Compare1 (ldl 0 3 S₁₀ V rfl rfl rfl (nil_ S₁₀ fun tmp h₁₁ S₁₁ => ?_))))
    refine eqNil_ (S₁₁.at 3 rfl).isList (S₁₁.at 4 rfl).isList (by have := Rm'.hu; omega) (wpAny_truthy_bool ?_)
    obtain ⟨S₁₂, hB₁₂, hab₁₂⟩ := St.absorb (ob := [(L, nsP mN [some (.ref lu), some (.ref row), some (.int i ti), some (.ref D), none, none]), (c, cellP (some (.ref lr))), (it, fun o => s₁.heap.get? it = some o)]) (tl := [(D, listP ys), (tmp, listP [])]) S₁₁
    obtain ⟨oD, hoD, hpD⟩ := hab₁₂ D _ (.head _)
    generalize Mx [(L, nsP mN [some (.ref lu), some (.ref row), some (.int i ti), some (.ref D), none, none]), (c, cellP (some (.ref lr))), (it, fun o => s₁.heap.get? it = some o)] h₁₁ = B₁₂ at S₁₂ hB₁₂ hoD
    have hk₁₂ : Sub B' B₁₂ := (hB₉.trans hB₁₀).trans hB₁₂
    have hysl := hys.1
    obtain ⟨n', hn'⟩ : ∃ n', us.length - i = n' + 1 := ⟨us.length - i - 1, by omega⟩
    by_cases hfe : fnd rs cur (cur.length - 1) = []
    · have hy0 : ys = [] := List.length_eq_zero_iff.mp (by rw [hysl, hfe]; rfl)
      rw [decide_eq_true hy0]
      simp only [if_true]
      refine wpAny_execs_cons (wpAny_Return_some (ldl 0 1 S₁₂ V rfl rfl rfl ?_))
      have hrowX : B₁₂ row orow := hB₁₂ _ _ (hB₁₀ _ _ horow)
      refine h _ row cur ⟨fun b o e => S₁₂.keep b o (hk₁₂ b o (hB b o e)), sd₁.trans sd₁₀⟩ ⟨vs, ⟨orow, ⟨S₁₂.keep _ _ hrowX, .inl hrow0⟩, hprow⟩, hvs⟩ (hmelt cur ?_)
      rw [hn']
      exact .stop _ _ hfe
    · have hy0 : ys ≠ [] := fun e => hfe (List.length_eq_zero_iff.mp (by rw [← hysl, e]; rfl))
      rw [decide_eq_false hy0]
      simp only [Bool.false_eq_true, if_false]
      refine wpAny_execs_nil ?_
      refine wpAny_execs_cons (Assign_Tuple (bcall1 (id := "min") S₁₂ V (by decide) (by decide) (by rfl) (ldl 0 3 S₁₂ V rfl rfl rfl ?_)))
      refine min_ S₁₂ Rm'.hh (by have := Rm'.hu; omega) ⟨oD, hoD, hpD⟩ (hys.mono hB₁₂) hfe fun j p v s₁₃ hvj hpj hbest S₁₃ sd₁₃ => ?_
      obtain ⟨T, u₁, u₂, hvT, hT⟩ := (hys.mono hB₁₂).2 j p hpj
      rw [hvT] at hvj; cases hvj
      have hpm : p ∈ fnd rs cur (cur.length - 1) := List.mem_of_getElem? hpj
      obtain ⟨k, q, hk, hat, hqm, hpe⟩ := fnd_mem hpm
      subst hpe
      refine asg2 0 4 5 S₁₃ V Rm'.hh (hT.mono S₁₃.hp).isTup rfl rfl rfl fun h₁₄ tk₁₄ S₁₄ => ?_
      change St mg mb B₁₂ h₁₄ [(L, nsP mN [some (.ref lu), some (.ref row), some (.int i ti), some (.ref D), some (.int (rs.idxOf q : Nat) u₁), some (.int (k : Int) u₂)]), (c, cellP (some (.ref lr))), (it, fun o => s₁.heap.get? it = some o)] at S₁₄
      obtain ⟨S₁₅, hB₁₅⟩ := St.reclaim (P := listP vs) S₆ S₁₄ hk₁₂ hrowB' ⟨orow, hB₁₂ _ _ (hB₁₀ _ _ horow), hprow⟩
      generalize (fun b o => B₁₂ b o ∧ b ≠ row) = B₁₅ at S₁₅ hB₁₅
      change St mg mb B₁₅ h₁₄ [(L, nsP mN [some (.ref lu), some (.ref row), some (.int i ti), some (.ref D), some (.int (rs.idxOf q : Nat) u₁), some (.int (k : Int) u₂)]), (c, cellP (some (.ref lr))), (it, fun o => s₁.heap.get? it = some o), (row, listP vs)] at S₁₅
      refine wpAny_execs_cons (wpAny_Assign_Subscript (one_ (mg := mg) (mb := mb) (wpAny_BinOp (wpAny_Constant_int (ldl 0 4 (s := { s₁₃ with heap := h₁₄, toks := tk₁₄ + 1 }) S₁₅ V rfl rfl rfl (add_int ⟨_, _, S₁₅, fun r h₁₆ S₁₆ => ?_⟩))))))
      refine ldl 0 1 S₁₆ V rfl rfl rfl ?_
      refine wpAny_Slice (wpAny_evalPart_some (ldl 0 5 S₁₆ V rfl rfl rfl (wpAny_evalPart_some (wpAny_BinOp (ldl 0 5 S₁₆ V rfl rfl rfl (wpAny_Constant_int (add_int (wpAny_pure ?_))))))))
      have ek2 : (k : Int) + 2 = ((k + 2 : Nat) : Int) := by push_cast; rfl
      rw [ek2]
      have hkl : k + 2 ≤ cur.length := by omega
      have S₁₇ := fun (o : Obj) (ho : o.isFreed = false) => S₁₆.push (o := o) (fun _ => True) trivial ho
      refine setSlice_ 3 (S₁₇ _ rfl) rfl ((S₁₇ _ rfl).at 4 rfl).isList (fun e => ?_) (Heap.IsSliceOf.new ..) (by omega) (by omega) (by omega) (by simp) fun h₁₈ S₁₈ => wpAny_execs_nil ?_
      · have d := S₁₆.dis
        simp [e] at d
      · revert S₁₈
        generalize hgz : [Value.int (256 + ((rs.idxOf q : Nat) : Int)) _] = zs
        obtain ⟨tz, rfl⟩ : ∃ tz, zs = [Value.int (256 + ((rs.idxOf q : Nat) : Int)) tz] := ⟨_, hgz.symm⟩
        clear hgz
        intro S₁₈
        have hl' : IntsAre (vs.take k ++ [.int (256 + ((rs.idxOf q : Nat) : Int)) tz] ++ vs.drop (k + 2)) (cur.take k ++ [256 + ((rs.idxOf q : Nat) : Int)] ++ cur.drop (k + 2)) := intsApp (intsApp (hvs.take k) (intsOne _ _)) (hvs.drop (k + 2))
        have S₁₉ := (S₁₈.sub (ob' := [(L, nsP mN [some (.ref lu), some (.ref row), some (.int i ti), some (.ref D), some (.int (rs.idxOf q : Nat) u₁), some (.int (k : Int) u₂)]), (c, cellP (some (.ref lr))), (it, fun o => s₁.heap.get? it = some o), (row, listP (vs.take k ++ [.int (256 + ((rs.idxOf q : Nat) : Int)) tz] ++ vs.drop (k + 2)))]) (List.sublist_append_left _ _ |>.trans (List.sublist_append_left _ _))).wk 0 rfl (nsP.weak (lv' := [some (.ref lu), some (.ref row), none, none, none, none]) ⟨.inr rfl, .inr rfl, .inl rfl, .inl rfl, .inl rfl, .inl rfl, trivial⟩)
        refine ⟨[(L, nsP mN [some (.ref lu), some (.ref row), none, none, none, none]), (c, cellP (some (.ref lr))), (row, listP (vs.take k ++ [.int (256 + ((rs.idxOf q : Nat) : Int)) tz] ++ vs.drop (k + 2)))], B₁₅, ⟨_, _, rfl, hl', fun l hl => hmelt l ?_, by simp, ?_⟩, rfl, hB₁₅, S₁₉.perm (List.Perm.cons _ (List.Perm.cons _ (List.Perm.swap _ _ _))), sd₁₀.trans sd₁₃⟩
        · rw [hn']
          have e3 : us.length - (i + 1) = n' := by omega
          rw [e3] at hl
          refine .turn n' cur l (rs.idxOf q) k hpm (fun q' hq' => ?_) hl
          obtain ⟨i', hi'⟩ := List.mem_iff_getElem?.mp hq'
          have := hbest i' q' hi'
          simpa only [ltP, decide_eq_false_iff_not] using this
        · simp only [List.length_append, List.length_take, List.length_drop, List.length_cons, List.length_nil]; omega
  · rintro ob' B' s' ⟨cur, vs, rfl, hvs, hmelt, hcne, hcl⟩ hB S₆ sd₁ hadr
    refine wpAny_execs_cons (wpAny_Return_some (ldl 0 1 S₆ V rfl rfl rfl ?_))
    obtain ⟨o, ho, hp⟩ := S₆.at 2 rfl
    refine h _ row cur ⟨fun b o e => S₆.keep b o (hB b o e), sd₁⟩ ⟨vs, ⟨o, ⟨ho, .inl hrow0⟩, hp⟩, hvs⟩ (hmelt cur ?_)
    rw [Nat.sub_self]
    exact .out _
end
end Mine
end
/-! ## F27 -/
section
set_option maxRecDepth 100000
set_option maxHeartbeats 400000
open PySem PySem.Calls PySem.W PyProof.Rows
namespace Mine
abbrev lN : List Str := ["script", "numbers", "k", "v", "leaves", "places", "units", "fits", "pieces", "pairs"]
abbrev lG : List Str := ["len", "enumerate", "_law_leaves", "_iter_escaped_chars", "range", "_law_units", "_law_written", "_law_melted", "_law_cut", "zip"]
abbrev lC (d z t w r h : Addr) : List (Str × Addr) := [("told", d), ("sizes", z), ("texts", t), ("row", w), ("rules", r), ("heads", h)]
abbrev LW (L d z t w r h : Addr) (lv : List (Option Value)) (cd cz ct cw cr ch : Option Value) : Ob :=
  [(L, nsP lN lv), (d, cellP cd), (z, cellP cz), (t, cellP ct), (w, cellP cw), (r, cellP cr), (h, cellP ch)]
theorem sevenN : (some (7 : Int) : Option Int) = some ((7 : Nat) : Int) := rfl
theorem threeN : (some (3 : Int) : Option Int) = some ((3 : Nat) : Int) := rfl
theorem oneN : (some (1 : Int) : Option Int) = some ((1 : Nat) : Int) := rfl
section
variable {prog : Program} {w' : World} {A : Around} {E : Value → Shared → Prop} {s : Shared} {mg mb : Str → Option Value} {B : Rl} {env : Env} {L d z t w r h : Addr}
theorem pairs_of {X : Rl} {l : Addr} {vs : List Value} {ps : List (Int × Int)} (hl : Lst X l vs) (hp : Prs X vs ps) : Pairs X l ps := by
  have key : ∀ (n : Nat), n ≤ vs.length → ∃ ts : List Addr, ts.length = n ∧ vs.take n = ts.map Value.ref := by
    intro n
    induction n with
    | zero => intro _; exact ⟨[], rfl, by simp⟩
    | succ n ih =>
      intro hn
      obtain ⟨ts, h1, h2⟩ := ih (by omega)
      have hnp : n < ps.length := by have := hp.1; omega
      have hq := List.getElem?_eq_getElem hnp
      generalize ps[n] = q at hq
      obtain ⟨T, u, v, h3, _⟩ := hp.2 n q hq
      refine ⟨ts ++ [T], by simp [h1], ?_⟩
      rw [List.take_add_one, h3, h2]; simp
  obtain ⟨ts, h1, h2⟩ := key vs.length (Nat.le_refl _)
  rw [List.take_length] at h2
  subst h2
  refine ⟨ts, hl, by rw [h1]; exact hp.1, fun i p hi => ?_⟩
  obtain ⟨T, u, v, h3, h4⟩ := hp.2 i p hi
  rw [List.getElem?_map] at h3
  cases hT : ts[i]? with
  | none => rw [hT] at h3; cases h3
  | some T' => rw [hT] at h3; cases h3; exact ⟨T, u, v, rfl, h4⟩

theorem sub_slice {value : PySem.Expr} {lower upper : Option PySem.Expr} {p pos : Pos} {T id : String} {Q : Value → Shared → Prop}
    (hl : typeLookup (.type T) "__getitem__" = pure (some (.builtin id)))
    (h : wpAny (model prog w') A (eval value env) (fun o s₁ => wpAny (model prog w') A (eval (.Slice lower upper none p) env) (fun i s₂ => s₂.TypeIs o T ∧ wpAny (model prog w') A (getItem o i) Q E s₂) E s₁) E s) :
    wpAny (model prog w') A (eval (.Subscript value (.Slice lower upper none p) pos) env) Q E s := by
  rw [eval_Subscript]
  refine wpAny_bind (wpAny_mono h (fun o s₁ h₁ => wpAny_bind (wpAny_holding (wpAny_mono h₁ (fun i s₂ h₂ => wpAny_bind (wpAny_standAt ?_)) fun _ _ x => x)))
    fun _ _ x => x)
  have fin : wpAny (model prog w') A (operate [i, o] (getItem o i)) (fun r s₃ => wpAny (model prog w') A (letTemporaryGo value o r >>= fun _ => pure r) Q E s₃) E s₂ :=
    wpAny_operating (wpAny_mono h₂.2 (fun r s₃ h₃ => wpAny_bind (wpAny_letTemporaryGo (wpAny_pure h₃))) fun _ _ x => x)
  refine wpAny_bind ?_
  rw [getitemInPython_of_ne h₂.1.not_modules]
  refine wpAny_bind (wpAny_specialOf h₂.1 hl ?_)
  first
    | exact wpAny_pure (wpAny_bind fin)
    | exact wpAny_bind (wpAny_pure (wpAny_bind fin))
    | exact wpAny_bind fin
theorem side_mk (s : Shared) (h' : Heap) (tk : Nat) : Side s { s with heap := h', toks := tk } := ⟨rfl, fun _ _ e => e, id⟩
/-- a slice of any list, made just now or not -/
theorem slicef {value : PySem.Expr} {lower upper : Option PySem.Expr} {p pos : Pos} {Q : Value → Shared → Prop}
    (h : wpAny (model prog w') A (eval value env) (fun o s₁ => wpAny (model prog w') A (evalPart lower env) (fun vl s₂ => wpAny (model prog w') A (evalPart upper env) (fun vu s₃ =>
      ∃ (l : Addr) (xs : List Value) (lo hi : Option Int), o = .ref l ∧ s₃.heap.IsList l xs.toArray ∧ xs.length ≤ 16777216 ∧ IsPart vl lo ∧ IsPart vu hi ∧ ∃ B ob, St mg mb B s₃.heap ob ∧
        ∀ D s₄, St mg mb B s₄.heap (ob ++ [(D, listP (slicePick xs.toArray lo hi none).toList)]) → Side s₃ s₄ → Q (.ref D) s₄) E s₂) E s₁) E s) :
    wpAny (model prog w') A (eval (.Subscript value (.Slice lower upper none p) pos) env) Q E s := by
  refine sub_slice (T := "list") list_getitem_lookup (wpAny_mono h (fun o s₁ h₁ => wpAny_Slice (wpAny_mono h₁ (fun vl s₂ h₂ => wpAny_mono h₂ (fun vu s₃ h₃ => ?_) fun _ _ e => e) fun _ _ e => e)) fun _ _ e => e)
  obtain ⟨l, xs, lo, hi, rfl, hl, hsz, pl, pu, B, ob, S, hQ⟩ := h₃
  rw [evalPart_none]
  have S₁ : St mg mb B (s₃.heap.push { cls := .type "slice", data := .fields #[vl, vu, .none] }) ob := S.grow fun b o e => Heap.get?_push_of_some _ e
  refine wpAny_pure ⟨(hl.push _).typeIs, wpAny_getItem_list_slice (hl.push _) (Heap.IsSliceOf.new ..) pl pu .none (by simp) ?_ (by rw [sizeLine_eq]; simpa using hsz)⟩
  have S₂ := S₁.push (o := { cls := .type "list", data := .seq (slicePick xs.toArray lo hi none) }) (listP (slicePick xs.toArray lo hi none).toList) ⟨rfl, rfl, 0, by simp⟩
  exact hQ _ _ S₂ (side_mk s₃ _ _)
inductive CInts : List PySem.Expr → List Int → Prop
  | nil : CInts [] []
  | cons (n : Int) (k : Nat) (p : Pos) {es : List PySem.Expr} {ns : List Int} : CInts es ns → CInts (.Constant (.int n) k p :: es) (n :: ns)
theorem consts_ {es : List PySem.Expr} {ns : List Int} (hc : CInts es ns) : ∀ {s : Shared} {pos : Pos} {Q : List Value → Shared → Prop}, (∀ vs s', IntsAre vs ns → s'.heap = s.heap → Side s s' → Q vs s') → wpAny (model prog w') A (spliced (backTo pos (starEach es env))) Q E s := by
  induction hc with
  | nil => intro s pos Q hQ; exact args_nil (hQ [] s .nil rfl (Side.refl s))
  | cons n k p _ ih =>
    intro s pos Q hQ
    refine args_cons (wpAny_Constant_int ?_)
    exact ih fun vs s' hi hh hs => hQ _ s' (.cons n _ hi) hh ((side_mk s _ _).trans hs)
theorem constList_ {es : List PySem.Expr} {ns : List Int} {pos : Pos} {ob : Ob} {Q : Value → Shared → Prop} (hc : CInts es ns) (S : St mg mb B s.heap ob) (hsz : ns.length ≤ 1000)
    (hQ : ∀ D vs s', IntsAre vs ns → St mg mb B s'.heap (ob ++ [(D, listP vs)]) → Side s s' → Q (.ref D) s') : wpAny (model prog w') A (eval (.List es pos) env) Q E s := by
  refine List_ (consts_ hc fun vs s' hi hh hs => ?_)
  rw [← hh] at S
  exact newList_ S (by rw [sizeLine_eq, hi.length]; omega) fun D h' S' => hQ D vs _ hi S' (hs.trans (side_mk s' _ _))
theorem stlf (j i : Nat) {ob : Ob} {names : List Str} {cells : List (Str × Addr)} {globs : List Str} {x : Str} {lv : List (Option Value)} {v : Value} {Q : Unit → Shared → Prop} (S : St mg mb B s.heap ob) (V : Ev env L names cells globs) (hj : ob[j]? = some (L, nsP names lv)) (hi : names[i]? = some x)
    (h : ∀ s', St mg mb B s'.heap (ob.set j (L, nsP names (lv.set i (some v)))) → Side s s' → Q () s') : wpAny (model prog w') A (storeName env x v) Q E s := stl j i S V hj hi fun h' S' => h _ S' (side_mk s _ _)
theorem stcf (j i : Nat) {ob : Ob} {names : List Str} {cells : List (Str × Addr)} {globs : List Str} {x : Str} {c : Addr} {v₀ : Option Value} {v : Value} {Q : Unit → Shared → Prop} (S : St mg mb B s.heap ob) (V : Ev env L names cells globs) (hi : cells[i]? = some (x, c)) (hj : ob[j]? = some (c, cellP v₀))
    (h : ∀ s', St mg mb B s'.heap (ob.set j (c, cellP (some v))) → Side s s' → Q () s') : wpAny (model prog w') A (storeName env x v) Q E s := stc j i S V hi hj fun h' S' => h _ S' (side_mk s _ _)
theorem addLf {ob : Ob} {l b : Addr} {vs ws : List Value} {Q : Value → Shared → Prop} (S : St mg mb B s.heap ob) (hl : s.heap.IsList l vs.toArray) (hb : s.heap.IsList b ws.toArray) (hsz : vs.length + ws.length ≤ 16777216)
    (h : ∀ D s', St mg mb B s'.heap (ob ++ [(D, listP (vs ++ ws))]) → Side s s' → Q (.ref D) s') : wpAny (model prog w') A (binaryOp .Add (.ref l) (.ref b)) Q E s := addL_ S hl hb hsz fun D h' S' => h D _ S' (side_mk s _ _)
theorem lenLf {l : Addr} {xs : List Value} {Q : Value → Shared → Prop} (hl : s.heap.IsList l xs.toArray) (hsz : xs.length ≤ 16777216) (h : ∀ t s', s'.heap = s.heap → Side s s' → Q (.int xs.length t) s') :
    wpAny (model prog w') A (call (.builtin "len") [.ref l]) Q E s := lenL_ hl hsz fun t tk => h t _ rfl (side_mk s _ _)
theorem cintf {i : Int} {k : Nat} {pos : Pos} {Q : Value → Shared → Prop} (h : ∀ t s', s'.heap = s.heap → Side s s' → Q (.int i t) s') : wpAny (model prog w') A (eval (.Constant (.int i) k pos) env) Q E s := wpAny_Constant_int (h _ _ rfl (side_mk s _ _))

theorem law_numbers {sc : List Int} {ls : Addr} {Q : Flow → Shared → Prop} (V : Ev env L lN (lC d z t w r h) lG)
    (S : St mg mb B s.heap (LW L d z t w r h [some (.ref ls), none, none, none, none, none, none, none, none, none] none none none none none none)) {vs : List Value} (hvs : ∀ h, Sub B (Hp h) → h.IsList ls vs.toArray) (his : IntsAre vs sc) (hlen : sc.length ≤ 1000)
    (hQ : ∀ s' B' ln, Sub B B' → St mg mb B' s'.heap (LW L d z t w r h [some (.ref ls), some (.ref ln), none, none, none, none, none, none, none, none] none none none none none none) → Ints B' ln (numsOf sc) → Side s s' →
      wpAny (model prog w') A (execs ((defAt 15).body.drop 1) env) Q E s') :
    wpAny (model prog w') A (execs (defAt 15).body env) Q E s := by
  have hvl : vs.length = sc.length := his.length
  refine wpAny_execs_cons (wpAny_Assign_Name (wpAny_BinOp (slicef (mg := mg) (mb := mb) (ldl 0 0 S V rfl rfl rfl (wpAny_pure (wpAny_evalPart_some (wpAny_Constant_int ⟨ls, vs, _, _, rfl, (hvs _ S.hp), by omega, .none, .int _ _, _, _, S, fun D₁ s₁ S₁ d₁ => ?_⟩)))))))
  rw [sevenN, pickTo] at S₁
  refine slicef (mg := mg) (mb := mb) (constList_ (ns := dfltN) (.cons _ _ _ (.cons _ _ _ (.cons _ _ _ (.cons _ _ _ (.cons _ _ _ (.cons _ _ _ (.cons _ _ _ .nil))))))) S₁ (by decide) fun D₂ ds s₂ hds S₂ d₂ => ?_)
  refine wpAny_evalPart_some (bcall1 (id := "len") S₂ V (by decide) (by decide) (by rfl) (slicef (mg := mg) (mb := mb) (ldl 0 0 S₂ V rfl rfl rfl (wpAny_pure (wpAny_evalPart_some (cintf fun t₃ s₃ e₃ d₃ => ⟨ls, vs, _, _, rfl, (hvs _ (e₃ ▸ S₂.hp)), by omega, .none, .int _ _, _, _, e₃ ▸ S₂, fun D₄ s₄ S₄ d₄ => ?_⟩))))))
  rw [sevenN, pickTo] at S₄
  refine lenLf (S₄.at 9 rfl).isList (by simp; omega) fun t₅ s₅ e₅ d₅ => wpAny_pure ⟨D₂, ds, _, _, rfl, (At.isList (e₅ ▸ S₄.at 8 rfl)), (by rw [hds.length]; decide), .int _ _, .none, _, _, e₅ ▸ S₄, fun D₆ s₆ S₆ d₆ => ?_⟩
  rw [pickFrom] at S₆
  refine addLf S₆ (S₆.at 7 rfl).isList (S₆.at 10 rfl).isList (by have := hds.length; simp; have : dfltN.length = 7 := rfl; omega) fun D₇ s₇ S₇ d₇ => ?_
  refine stlf 0 1 S₇ V rfl rfl fun s₈ S₈ d₈ => ?_
  obtain ⟨S₉, hB₉, hab⟩ := St.absorb (ob := LW L d z t w r h [some (.ref ls), some (.ref D₇), none, none, none, none, none, none, none, none] none none none none none none) S₈
  obtain ⟨o, ho, hp⟩ := hab D₇ _ (.tail _ (.tail _ (.tail _ (.tail _ (.head _)))))
  refine hQ s₈ _ D₇ hB₉ S₉ ⟨_, ⟨o, ho, hp⟩, ?_⟩ (((((((Side.refl s).trans d₁).trans d₂).trans ((side_mk s₂ _ _).trans d₃)).trans (d₄.trans (d₅.trans (d₆.trans (d₇.trans d₈)))))))
  have h7 : (vs.take 7).length = (sc.take 7).length := by simp [hvl]
  rw [h7]
  exact intsApp (his.take 7) (hds.drop _)
end
end Mine
end
/-! ## F28 -/
section
set_option maxRecDepth 100000
set_option maxHeartbeats 400000
open PySem PySem.Calls PySem.W PyProof.Rows
namespace Mine
section
variable {prog : Program} {w' : World} {A : Around} {E : Value → Shared → Prop} {s : Shared} {mg mb : Str → Option Value} {B : Rl} {env : Env} {L d z t w r h : Addr}
theorem addf {a b : Int} {t₁ t₂ : Tok} {Q : Value → Shared → Prop} (h : ∀ t s', s'.heap = s.heap → Side s s' → Q (.int (a + b) t) s') : wpAny (model prog w') A (binaryOp .Add (.int a t₁) (.int b t₂)) Q E s := add_int (h _ _ rfl (side_mk s _ _))
theorem subf {a b : Int} {t₁ t₂ : Tok} {Q : Value → Shared → Prop} (h : ∀ t s', s'.heap = s.heap → Side s s' → Q (.int (a - b) t) s') : wpAny (model prog w') A (binaryOp .Sub (.int a t₁) (.int b t₂)) Q E s := sub_int (h _ _ rfl (side_mk s _ _))
theorem modf {a b : Int} {t₁ t₂ : Tok} {Q : Value → Shared → Prop} (hb : b ≠ 0) (h : ∀ t s', s'.heap = s.heap → Side s s' → Q (.int (a.fmod b) t) s') : wpAny (model prog w') A (binaryOp .Mod (.int a t₁) (.int b t₂)) Q E s := mod_int' hb (h _ _ rfl (side_mk s _ _))
theorem appendf (j : Nat) {ob : Ob} {D : Addr} {xs : List Value} {x : Value} {Q : Value → Shared → Prop} (S : St mg mb B s.heap ob) (hj : ob[j]? = some (D, listP xs)) (hsz : xs.length ≤ sizeLine)
    (h : ∀ s', St mg mb B s'.heap (ob.set j (D, listP (xs ++ [x]))) → Side s s' → Q .none s') : wpAny (model prog w') A (call (.builtin "list.append") [.ref D, x]) Q E s := append_ j S hj hsz fun _ S' => h _ S' (side_mk s _ _)
theorem newTuplef {ob : Ob} {vs : List Value} {Q : Value → Shared → Prop} (S : St mg mb B s.heap ob) (hsz : vs.length ≤ sizeLine)
    (h : ∀ D s', St mg mb B s'.heap (ob ++ [(D, tupP vs)]) → Side s s' → Q (.ref D) s') : wpAny (model prog w') A (newTuple vs) Q E s := newTuple_ S hsz fun D _ S' => h D _ S' (side_mk s _ _)
theorem evI {names : List Str} {cells : List (Str × Addr)} {globs : List Str} (V : Ev env L names cells globs) : interactive env = false := by unfold interactive; rw [V.kind]; rfl
/-- an item of the heads by a remainder -/
theorem pick_ {value slice : PySem.Expr} {hd : Addr} {hvs : List Value} {i : Nat} {x : Int} {tx : Tok} {Q : Value → Shared → Prop} (hl : s.heap.IsList hd hvs.toArray) (hi : IntsAre hvs (headsN i)) (hi3 : i ≤ 1000)
    (h : ∀ t, Q (.int (pickH i x) t) s)
    (hs : subscripted slice false (.ref hd) (.int (x.fmod ((3 + i : Nat) : Int)) tx) = operate [.ref hd, .int (x.fmod ((3 + i : Nat) : Int)) tx] (getItem (.ref hd) (.int (x.fmod ((3 + i : Nat) : Int)) tx)) := by with_unfolding_all rfl) (hg : ∀ r, letTemporaryGo value (.ref hd) r = pure () := by intro _; with_unfolding_all rfl) :
    wpAny (model prog w') A (subscriptTail value slice (.ref hd) (.int (x.fmod ((3 + i : Nat) : Int)) tx)) Q E s := by
  obtain ⟨h1, h2⟩ := fmod_lt x (3 + i) (by omega)
  obtain ⟨tv, hv⟩ := hi.get _ _ (pickH_at i x)
  exact item_listL hl h1 (by omega) hv (h tv) hs hg

theorem law_rules {nums : List Int} {ls ln : Addr} {Q : Flow → Shared → Prop} (V : Ev env L lN (lC d z t w r h) lG) (hh : A.handled = none) (hln : Ints B ln nums) (hlen : nums.length = 7)
    (S : St mg mb B s.heap (LW L d z t w r h [some (.ref ls), some (.ref ln), none, none, none, none, none, none, none, none] none none none none none none))
    (hQ : ∀ s' B' rl hd, Sub B B' → St mg mb B' s'.heap (LW L d z t w r h [some (.ref ls), some (.ref ln), none, none, none, none, none, none, none, none] none none none none (some (.ref rl)) (some (.ref hd))) →
      Pairs B' rl (rulesN nums 3) → Ints B' hd (headsN 3) → Side s s' → wpAny (model prog w') A (execs ((defAt 15).body.drop 4) env) Q E s') :
    wpAny (model prog w') A (execs ((defAt 15).body.drop 1) env) Q E s := by
  obtain ⟨vs, hvs, his⟩ := hln
  have hvl : vs.length = 7 := his.length.trans hlen
  refine wpAny_execs_cons (wpAny_Assign_Name (constList_ (ns := [97, 98, 255]) (.cons _ _ _ (.cons _ _ _ (.cons _ _ _ .nil))) S (by decide) fun hd hvs0 s₁ hhvs0 S₁ d₁ => stcf 6 5 S₁ V rfl rfl fun s₂ S₂ d₂ => ?_))
  refine wpAny_execs_cons (wpAny_Assign_Name (nil_ S₂ fun rl h₃ S₃ => stcf 5 4 S₃ V rfl rfl fun s₄ S₄ d₄ => ?_))
  have dd₄ : Side s s₄ := (d₁.trans d₂).trans ((side_mk s₂ _ _).trans d₄)
  change St mg mb B s₄.heap (LW L d z t w r h [some (.ref ls), some (.ref ln), none, none, none, none, none, none, none, none] none none none none (some (.ref rl)) (some (.ref hd)) ++ [(hd, listP hvs0), (rl, listP [])]) at S₄
  refine wpAny_execs_cons (wpAny_For (tcall1 (id := "enumerate") S₄ V (by decide) (by decide) (by rfl) (slicef (mg := mg) (mb := mb) (ldl 0 1 S₄ V rfl rfl rfl (wpAny_pure (wpAny_evalPart_some (wpAny_Constant_int ⟨ln, vs, _, _, rfl, (hvs.mono S₄.hp).isList, by omega, .none, .int _ _, _, _, S₄, fun D s₅ S₅ d₅ => ?_⟩)))))))
  rw [threeN, pickTo] at S₅
  obtain ⟨S₆, hB₆, hab₆⟩ := St.absorb S₅
  obtain ⟨oD, hoD, hpD⟩ := hab₆ D _ (.head _)
  generalize Mx _ s₅.heap = B₆ at S₆ hB₆ hoD
  have hD : Lst B₆ D (vs.take 3) := ⟨oD, hoD, hpD⟩
  have hl3 : (vs.take 3).length = 3 := by rw [List.length_take, hvl]; rfl
  have dd₅ : Side s s₅ := dd₄.trans ((side_mk s₄ _ _).trans d₅)
  refine enum_ S₆ hD fun e it h₇ S₇ hwr hfp hei hle hli hE hI hL => ?_
  refine wpAny_pyIter_enum hE.choose_spec ?_
  refine for_wk (Wk.enum hh e it D hei hle hli (vs.take 3) _ _ _) s S₇ hwr hfp (dd₅.trans (side_mk s₅ _ _)) (fun _ hg => (nomatch hg)) ⟨hE, hI, hL⟩
    (fun i ob X => ∃ hvs rvs, ob = LW L d z t w r h [some (.ref ls), some (.ref ln), none, none, none, none, none, none, none, none] none none none none (some (.ref rl)) (some (.ref hd)) ++ [(hd, listP hvs), (rl, listP rvs)] ∧ IntsAre hvs (headsN i) ∧ Prs X rvs (rulesN nums i))
    ⟨hvs0, [], rfl, hhvs0, Prs.nil _⟩ (fun i ob X Y k ⟨a, b, h1, h2, h3⟩ => ⟨a, b, h1, h2, h3.mono k⟩) ?_ ?_
  · rintro i v B' ob₁ s₁' E₁ hi ⟨hvs', rvs, rfl, hhvs, hrvs⟩ hB' S₈ ⟨T, ti, x, rfl, hx, hT⟩ sd₁ hadr
    rw [hl3] at hi
    have hxv : vs[i]? = some x := by rw [List.getElem?_take, if_pos hi] at hx; exact hx
    obtain ⟨n, tn, hn, rfl⟩ := intsAt his hxv
    change St mg mb B' s₁'.heap (LW L d z t w r h [some (.ref ls), some (.ref ln), none, none, none, none, none, none, none, none] none none none none (some (.ref rl)) (some (.ref hd)) ++ [(hd, listP hvs'), (rl, listP rvs), (e, fun o => s₁'.heap.get? e = some o), (it, fun o => s₁'.heap.get? it = some o)]) at S₈
    refine asg2 0 2 3 S₈ V hh (hT.mono S₈.hp).isTup rfl rfl rfl fun h₉ tk₉ S₉ => ?_
    change St mg mb B' h₉ (LW L d z t w r h [some (.ref ls), some (.ref ln), some (.int i ti), some (.int n tn), none, none, none, none, none, none] none none none none (some (.ref rl)) (some (.ref hd)) ++ [(hd, listP hvs'), (rl, listP rvs), (e, fun o => s₁'.heap.get? e = some o), (it, fun o => s₁'.heap.get? it = some o)]) at S₉
    have hhl : hvs'.length = 3 + i := hhvs.length.trans (headsN_length i)
    have hne0 : ((3 + i : Nat) : Int) ≠ 0 := by omega
    have hrvl : rvs.length = i := hrvs.1.trans (rulesN_length nums i)
    refine wpAny_execs_cons (appendS_ (ldc 5 4 S₉ V rfl rfl ⟨rl, rvs, rfl, S₉.at 8 rfl, Tuple_ (args_cons (Subscript_ (ldc 6 5 S₉ V rfl rfl (wpAny_BinOp (ldl 0 3 S₉ V rfl rfl rfl (bcall1 (id := "len") S₉ V (by decide) (by decide) (by rfl) (ldc 6 5 S₉ V rfl rfl (lenL_ (S₉.at 7 rfl).isList (by omega) fun t₁ tk₁ => ?_))))))))⟩) rfl (evI V) rfl rfl rfl rfl)
    rw [hhl]
    refine mod_int' hne0 (pick_ (S₉.at 7 rfl).isList hhvs (by omega) fun tp₁ => args_cons (Subscript_ (ldc 6 5 S₉ V rfl rfl (wpAny_BinOp (wpAny_BinOp (ldl 0 3 S₉ V rfl rfl rfl (bcall1 (id := "len") S₉ V (by decide) (by decide) (by rfl) (ldc 6 5 S₉ V rfl rfl (lenL_ (S₉.at 7 rfl).isList (by omega) fun t₁ tk₁ => ?_)))))))))
    rw [hhl]
    refine floordiv_int hne0 ?_ (.inl (PyProof.noPylong_small (by omega)))
    refine bcall1 (id := "len") S₉ V (by decide) (by decide) (by rfl) (ldc 6 5 S₉ V rfl rfl (lenL_ (S₉.at 7 rfl).isList (by omega) fun t₁ tk₁ => ?_))
    rw [hhl]
    refine mod_int' hne0 (pick_ (S₉.at 7 rfl).isList hhvs (by omega) fun tp₂ => args_nil ?_)
    refine newTuplef S₉ (by rw [sizeLine_eq]; show 2 ≤ 16777216; decide) fun T₂ s₁₀ S₁₀ d₁₀ => ?_
    refine appendf 8 S₁₀ rfl (by rw [sizeLine_eq]; omega) fun s₁₁ S₁₁ d₁₁ => ?_
    obtain ⟨S₁₂, hB₁₂, hab₁₂⟩ := St.absorb (ob := LW L d z t w r h [some (.ref ls), some (.ref ln), some (.int i ti), some (.int n tn), none, none, none, none, none, none] none none none none (some (.ref rl)) (some (.ref hd)) ++ [(hd, listP hvs'), (rl, listP (rvs ++ [.ref T₂])), (e, fun o => s₁'.heap.get? e = some o), (it, fun o => s₁'.heap.get? it = some o)]) (tl := [(T₂, tupP _)]) S₁₁
    obtain ⟨oT, hoT, hpT⟩ := hab₁₂ T₂ _ (.head _)
    generalize Mx _ s₁₁.heap = B₁₂ at S₁₂ hB₁₂ hoT
    refine wpAny_execs_cons (appendS_ (ldc 6 5 S₁₂ V rfl rfl ⟨hd, hvs', rfl, S₁₂.at 7 rfl, wpAny_BinOp (wpAny_Constant_int (ldl 0 2 S₁₂ V rfl rfl rfl (addf fun tq sq eq dq => ?_)))⟩) rfl (evI V) rfl rfl rfl rfl)
    rw [← show sq.heap = s₁₁.heap from eq] at S₁₂
    refine appendf 7 S₁₂ rfl (by rw [sizeLine_eq]; omega) fun s₁₃ S₁₃ d₁₃ => wpAny_execs_nil ?_
    have S₁₄ := S₁₃.wk 0 rfl (nsP.weak (lv' := [some (.ref ls), some (.ref ln), none, none, none, none, none, none, none, none]) ⟨.inr rfl, .inr rfl, .inl rfl, .inl rfl, .inr rfl, .inr rfl, .inr rfl, .inr rfl, .inr rfl, .inr rfl, trivial⟩)
    change St mg mb B₁₂ s₁₃.heap ((LW L d z t w r h [some (.ref ls), some (.ref ln), none, none, none, none, none, none, none, none] none none none none (some (.ref rl)) (some (.ref hd)) ++ [(hd, listP (hvs' ++ [Value.int (256 + (i : Int)) tq])), (rl, listP (rvs ++ [Value.ref T₂]))]) ++ keepers [e, it] s₁'.heap) at S₁₄
    refine ⟨_, B₁₂, ⟨hvs' ++ [Value.int (256 + (i : Int)) tq], rvs ++ [Value.ref T₂], rfl, ?_, ?_⟩, rfl, hB₁₂, S₁₄, (show Side s₁' s₁₀ from d₁₀).trans (d₁₁.trans ((show Side s₁₁ sq from dq).trans d₁₃))⟩
    · rw [headsN_succ]; exact intsApp hhvs (intsOne _ _)
    · rw [rulesN_succ]
      have eg : (nums[i]?).getD 0 = n := by rw [hn]; rfl
      rw [eg]
      exact (hrvs.mono hB₁₂).snoc (p := ruleOf i n) ⟨oT, hoT, hpT⟩
  · rintro ob₈ B₈ s₈ ⟨hvs', rvs, rfl, hhvs, hrvs⟩ hB₈ S₈ sd₈ hadr
    rw [hl3] at hhvs hrvs
    obtain ⟨S₉, hB₉, hab₉⟩ := St.absorb S₈
    obtain ⟨o1, ho1, hp1⟩ := hab₉ hd _ (.head _)
    obtain ⟨o2, ho2, hp2⟩ := hab₉ rl _ (.tail _ (.head _))
    exact hQ s₈ _ rl hd ((hB₆.trans hB₈).trans hB₉) S₉ (pairs_of ⟨o2, ho2, hp2⟩ (hrvs.mono hB₉)) ⟨_, ⟨o1, ho1, hp1⟩, hhvs⟩ sd₈
end
end Mine
end
/-! ## F29 -/
section
set_option maxRecDepth 100000
set_option maxHeartbeats 400000
open PySem PySem.Calls PySem.W PyProof.Rows
namespace Mine
section
variable {prog : Program} {w' : World} {A : Around} {E : Value → Shared → Prop} {s s' : Shared} {mg mb : Str → Option Value} {B : Rl} {ob : Ob} {env : Env} {L : Addr} {names : List Str} {cells cells' : List (Str × Addr)} {globs nm gl : List Str}
/-- behind a call: what it made stays -/
theorem St.after {as : List Addr} (S : St mg mb B s.heap ob) (g : Goes s s') (has : ∀ a ∈ as, ∃ o, B a o) : ∃ B', St mg mb B' s'.heap ob ∧ Sub B B' ∧ Sub (New s s' as) B' := by
  have S' := S.grow g.keep
  refine ⟨_, S'.max, S'.subMx, fun b o ⟨h1, h2⟩ => ⟨h1, fun hm => ?_⟩⟩
  rcases h2 with h2 | h2
  · obtain ⟨o', ho'⟩ := S.there hm
    rw [h2] at ho'; cases ho'
  · obtain ⟨o', ho'⟩ := has b h2
    exact (S'.subMx _ _ ho').2 hm
theorem swaps_not {elt : PySem.Expr} {gens : List Comprehension} {scope : Scope} {pos py : Pos} {y : Str} {line : Nat} (hl : env.kindOf y = some .cell) : swapsWith (.ListComp elt gens scope pos) (some (.Name y py)) line env = pure false := by
  unfold swapsWith
  simp only [hl]
  have e : ((some NameKind.cell : Option NameKind) == some NameKind.local) = false := by decide
  rw [e]
  simp
/-- a comprehension over any own iterator of the frame's kind -/
theorem comp_any {elt target iter : PySem.Expr} {scope : Scope} {pos : Pos} {I : Addr} {wr fp : List Addr} {n : Nat} {P : Nat → Value → Rl → Prop} {Stt : Nat → Shared → Prop} {Mid : Nat → Value → Shared → Prop}
    {K : Value → Addr → Result → Shared → Prop} (V : Ev env L names cells globs) (hs : ∀ p ∈ cells', p ∈ cells) (ok : compOk scope nm (cells'.map (·.1)) gl = true)
    (W : Wk prog w' A I wr fp [] n target P Stt Mid) (hsz : n ≤ 1000000) (S : St mg mb B s.heap ob) (hwr : ∀ b ∈ wr, (∀ o, ¬ B b o) ∧ b ∉ ob.map (·.1)) (hfp : ∀ b ∈ fp, b ∉ ob.map (·.1) ∧ b < s.heap.objs.size)
    (hst : Stt 0 s) (Inv : Nat → List Value → Rl → Prop) (h0 : Inv 0 [] B) (hmono : ∀ i ys X Y, Sub X Y → Inv i ys X → Inv i ys Y)
    (turn : ∀ i v ys B' s₁ E D C cenv, Ev cenv C nm cells' gl → i < n → Inv i ys B' → Sub B B' → St mg mb B' s₁.heap (ob ++ [(D, listP ys), (C, nsP nm (lvN nm))] ++ keepers wr s₁.heap) → P i v B' →
      wpAny (model prog w') A (assign target cenv v) (fun _ s₂ => wpAny (model prog w') A (eval elt cenv) (fun x s₄ => TurnEnd mg mb ob D C nm (keepers wr s₁.heap) (Inv (i + 1) (ys ++ [x])) B' ys s₁ s₄) E s₂) E s₁)
    (done : ∀ D C ys B' s', Inv n ys B' → Sub B B' → St mg mb B' s'.heap (ob ++ [(D, listP ys), (C, nsP nm (lvN nm))]) → Side s s' → K (.ref D) C (.ok .next) s') :
    wpAny (model prog w') A (newList []) (fun acc s₃ => wpAny (model prog w') A (newFunctionEnv scope env.globals (closG env scope.names []) [] env.qual none .none (some env)) (fun cenv s₄ =>
      codeAny (model prog w') A (.compStart (.ListComp elt [⟨target, iter, [], 0⟩] scope pos) 0 (.ref I) acc { cenv with scope := relabel scope env }) (K acc cenv.locals) s₄) E s₃) E s := by
  refine comp_block V hs ok W s hsz S hwr hfp (Side.refl s) (fun _ hg => nomatch hg) hst Inv h0 hmono (fun i v ys B' s₁ E D C cenv Vc hi hI hB S₁ hP _ => ?_) done
  refine wpAny_mono (turn i v ys B' s₁ E D C cenv Vc hi hI hB S₁ hP) (fun _ s₂ h₂ => ?_) fun _ _ e => e
  exact wpAny_pure h₂
/-- a comprehension over a list that stays -/
theorem compL_go {elt iter : PySem.Expr} {x : Str} {px : Pos} {scope : Scope} {pos : Pos} {K : Value → Addr → Result → Shared → Prop} {l : Addr} {xs : List Value} (V : Ev env L names cells globs) (hh : A.handled = none) (hs : ∀ p ∈ cells', p ∈ cells) (ok : compOk scope nm (cells'.map (·.1)) gl = true)
    (S : St mg mb B s.heap ob) (hl : Lst B l xs) (hsz : xs.length ≤ 1000000) (Inv : Nat → List Value → Rl → Prop) (h0 : Inv 0 [] B) (hmono : ∀ i ys X Y, Sub X Y → Inv i ys X → Inv i ys Y)
    (turn : ∀ i v ys B' s₁ E D C cenv it, Ev cenv C nm cells' gl → i < xs.length → xs[i]? = some v → Inv i ys B' → Sub B B' → St mg mb B' s₁.heap (ob ++ [(D, listP ys), (C, nsP nm (lvN nm))] ++ keepers [it] s₁.heap) →
      wpAny (model prog w') A (assign (.Name x px) cenv v) (fun _ s₂ => wpAny (model prog w') A (eval elt cenv) (fun y s₄ => TurnEnd mg mb ob D C nm (keepers [it] s₁.heap) (Inv (i + 1) (ys ++ [y])) B' ys s₁ s₄) E s₂) E s₁)
    (done : ∀ D C ys B' s', Inv xs.length ys B' → Sub B B' → St mg mb B' s'.heap (ob ++ [(D, listP ys), (C, nsP nm (lvN nm))]) → Side s s' → K (.ref D) C (.ok .next) s') :
    wpAny (model prog w') A (pyIter (.ref l)) (fun it s₂ => wpAny (model prog w') A (newList []) (fun acc s₃ => wpAny (model prog w') A (newFunctionEnv scope env.globals (closG env scope.names []) [] env.qual none .none (some env)) (fun cenv s₄ =>
      codeAny (model prog w') A (.compStart (.ListComp elt [⟨.Name x px, iter, [], 0⟩] scope pos) 0 it acc { cenv with scope := relabel scope env }) (K acc cenv.locals) s₄) E s₃) E s₂) E s := by
  refine iter_ S hl fun it h₂ S₂ hwr hfp hne hI hL => ?_
  refine comp_any V hs ok (Wk.list hh it l hne xs _ _) hsz S₂ hwr (fun b hb => ⟨hfp b hb, low2 hI hL b hb⟩) ⟨hI, hL⟩ Inv h0 hmono (fun i v ys B' s₁ E D C cenv a b c d e f => turn i v ys B' s₁ E D C cenv it a b f c d e) (fun D C ys B' s' a b c d => done D C ys B' s' a b c d)
/-- a comprehension over a range -/
theorem compR_go {elt iter : PySem.Expr} {x : Str} {px : Pos} {scope : Scope} {pos : Pos} {K : Value → Addr → Result → Shared → Prop} {n : Nat} {t : Tok} (V : Ev env L names cells globs) (hh : A.handled = none) (hs : ∀ p ∈ cells', p ∈ cells) (ok : compOk scope nm (cells'.map (·.1)) gl = true)
    (S : St mg mb B s.heap ob) (hsz : n ≤ 1000000) (Inv : Nat → List Value → Rl → Prop) (h0 : Inv 0 [] B) (hmono : ∀ i ys X Y, Sub X Y → Inv i ys X → Inv i ys Y)
    (turn : ∀ i ti ys B' s₁ E D C cenv it, Ev cenv C nm cells' gl → i < n → Inv i ys B' → Sub B B' → St mg mb B' s₁.heap (ob ++ [(D, listP ys), (C, nsP nm (lvN nm))] ++ keepers [it] s₁.heap) →
      wpAny (model prog w') A (assign (.Name x px) cenv (.int i ti)) (fun _ s₂ => wpAny (model prog w') A (eval elt cenv) (fun y s₄ => TurnEnd mg mb ob D C nm (keepers [it] s₁.heap) (Inv (i + 1) (ys ++ [y])) B' ys s₁ s₄) E s₂) E s₁)
    (done : ∀ D C ys B' s', Inv n ys B' → Sub B B' → St mg mb B' s'.heap (ob ++ [(D, listP ys), (C, nsP nm (lvN nm))]) → Side s s' → K (.ref D) C (.ok .next) s') :
    wpAny (model prog w') A (call (.type "range") [.int n t]) (fun x₀ s₁ => wpAny (model prog w') A (pyIter x₀) (fun it s₂ => wpAny (model prog w') A (newList []) (fun acc s₃ => wpAny (model prog w') A (newFunctionEnv scope env.globals (closG env scope.names []) [] env.qual none .none (some env)) (fun cenv s₄ =>
      codeAny (model prog w') A (.compStart (.ListComp elt [⟨.Name x px, iter, [], 0⟩] scope pos) 0 it acc { cenv with scope := relabel scope env }) (K acc cenv.locals) s₄) E s₃) E s₂) E s₁) E s := by
  refine range_ S hsz fun it h₂ tk₂ S₂ hwr hfp hlow hI => ?_
  refine comp_any V hs ok (Wk.range hh it n _ _) hsz S₂ hwr (fun b hb => ⟨hfp b hb, hlow b hb⟩) hI Inv h0 hmono (fun i v ys B' s₁ E D C cenv a b c d e ⟨ti, f⟩ => ?_) (fun D C ys B' s' a b c d => done D C ys B' s' a b c d)
  subst f
  exact turn i ti ys B' s₁ E D C cenv it a b c d e
theorem post_evalf {Q : Value → Shared → Prop} {D C : Addr} {ys : List Value} {lv : List (Option Value)} (S : St mg mb B s.heap (ob ++ [(D, listP ys), (C, nsP nm lv)]))
    (h : ∀ s', St mg mb B s'.heap (ob ++ [(D, listP ys)]) → Side s s' → Q (.ref D) s') : compPost (model prog w') A E none Q (.ref D) C (.ok .next) s := post_eval S fun _ S' => h _ S' (side_mk s _ _)
theorem post_asgf (j i₀ : Nat) {Q : Value → Shared → Prop} {D C : Addr} {y : Str} {py : Pos} {ys : List Value} {lv lv₀ : List (Option Value)} (V : Ev env L names cells globs) (hj : ob[j]? = some (L, nsP names lv₀)) (hy : names[i₀]? = some y)
    (S : St mg mb B s.heap (ob ++ [(D, listP ys), (C, nsP nm lv)]))
    (h : ∀ s', St mg mb B s'.heap (ob.set j (L, nsP names (lv₀.set i₀ (some (.ref D)))) ++ [(D, listP ys)]) → Side s s' → Q .none s') : compPost (model prog w') A E (some (assign (.Name y py) env)) Q (.ref D) C (.ok .next) s :=
  post_asg j i₀ V hj hy S fun _ _ S' => h _ S' (side_mk s _ _)
/-- a list just made, kept -/
theorem St.keep1 {D : Addr} {ys : List Value} {h : Heap} (S : St mg mb B h (ob ++ [(D, listP ys)])) : ∃ B', St mg mb B' h ob ∧ Sub B B' ∧ Lst B' D ys := by
  obtain ⟨S', hB', hab⟩ := S.absorb
  obtain ⟨o, ho, hp⟩ := hab D _ (List.mem_singleton.mpr rfl)
  exact ⟨_, S', hB', o, ho, hp⟩
end
end Mine
end
/-! ## F30 -/
section
set_option maxRecDepth 100000
set_option maxHeartbeats 400000
open PySem PySem.Calls PySem.W PyProof.Rows
namespace Mine
theorem strsApp {vs ws : List Value} {xs ys : List Str} (h : StrsAre vs xs) (k : StrsAre ws ys) : StrsAre (vs ++ ws) (xs ++ ys) := by
  induction h with
  | nil => exact k
  | cons y t _ ih => exact .cons y t ih
theorem strsOne (y : Str) (t : Tok) : StrsAre [.str y t] [y] := .cons y t .nil
theorem strsGet {vs : List Value} {xs : List Str} (h : StrsAre vs xs) : ∀ {i : Nat} {x : Str}, xs[i]? = some x → ∃ t, vs[i]? = some (.str x t) := by
  induction h with
  | nil => intro i x h; simp at h
  | cons y t _ ih =>
    intro i x h
    cases i with
    | zero => simp at h; exact ⟨t, by simp [h]⟩
    | succ i => simp only [List.getElem?_cons_succ] at h ⊢; exact ih h
theorem strsLen {vs : List Value} {xs : List Str} (h : StrsAre vs xs) : vs.length = xs.length := by
  induction h with
  | nil => rfl
  | cons y t _ ih => simp [ih]
def textN (rs : List (Int × Int)) (n : Int) : Str := textOf (expand rs 3 n)
def Texts (X : Rl) (l : Addr) (rs : List (Int × Int)) (ns : List Int) : Prop := ∃ vs, Lst X l vs ∧ StrsAre vs (ns.map (textN rs))
theorem Texts.mono {X Y : Rl} {l : Addr} {rs : List (Int × Int)} {ns : List Int} (h : Texts X l rs ns) (k : Sub X Y) : Texts Y l rs ns := let ⟨vs, h1, h2⟩ := h; ⟨vs, h1.mono k, h2⟩
def szOf (x : Int) : Int := if x > 127 then 2 else 1
abbrev l0 : List (Option Value) := [none, none, none, none, none, none, none, none, none, none]
section
variable {prog : Program} {w' : World} {A : Around} {E : Value → Shared → Prop} {s : Shared} {mg mb : Str → Option Value} {B : Rl} {env : Env} {L d z t w r h : Addr}
theorem law_row {nums : List Int} {ls ln hd rl : Addr} {Q : Flow → Shared → Prop} (V : Ev env L lN (lC d z t w r h) lG) (hh : A.handled = none) (hln : Ints B ln nums) (hlen : nums.length = 7) (hhd : Ints B hd (headsN 3))
    (S : St mg mb B s.heap (LW L d z t w r h [some (.ref ls), some (.ref ln), none, none, none, none, none, none, none, none] none none none none (some (.ref rl)) (some (.ref hd))))
    (hQ : ∀ s' B' lw, Sub B B' → St mg mb B' s'.heap (LW L d z t w r h l0 none none none (some (.ref lw)) (some (.ref rl)) (some (.ref hd))) →
      Ints B' lw (rowN nums) → Side s s' → wpAny (model prog w') A (execs ((defAt 15).body.drop 5) env) Q E s') :
    wpAny (model prog w') A (execs ((defAt 15).body.drop 4) env) Q E s := by
  obtain ⟨vs, hvs, his⟩ := hln
  obtain ⟨hvs0, hhl, hhi⟩ := hhd
  have hvl : vs.length = 7 := his.length.trans hlen
  have hsub : ∀ p ∈ [(("heads" : Str), h)], p ∈ lC d z t w r h := fun p hp => by rw [List.mem_singleton.mp hp]; simp
  refine wpAny_execs_cons (wpAny_Assign_Name (comp_eval (nm := ["v"]) (gl := []) (cells' := [("heads", h)]) V hsub (show compOk _ ["v"] ["heads"] [] = true by decide +kernel) ?_) (swaps_not (V.kc ("row", w) (by simp)).1))
  refine slicef (mg := mg) (mb := mb) (ldl 0 1 S V rfl rfl rfl (wpAny_evalPart_some (wpAny_Constant_int (wpAny_pure ⟨ln, vs, _, _, rfl, (hvs.mono S.hp).isList, by omega, .int _ _, .none, _, _, S, fun D₁ s₁ S₁ d₁ => ?_⟩))))
  rw [threeN, pickFrom] at S₁
  obtain ⟨B₂, S₂, hB₂, hD₂⟩ := S₁.keep1
  have hdl : (vs.drop 3).length = 4 := by rw [List.length_drop, hvl]
  refine compL_go (nm := ["v"]) (gl := []) (cells' := [("heads", h)]) V hh hsub (show compOk _ ["v"] ["heads"] [] = true by decide +kernel) S₂ hD₂ (by omega) (fun i ys _ => IntsAre ys (((nums.drop 3).take i).map (pickH 3))) .nil (fun _ _ _ _ _ h => h) ?_ ?_
  · rintro i v ys B' s₃ E₃ D C cenv it Vc hi hx hys hB' S₃
    obtain ⟨n, tn, hn, rfl⟩ := intsAt (his.drop 3) hx
    change St mg mb B' s₃.heap (LW L d z t w r h [some (.ref ls), some (.ref ln), none, none, none, none, none, none, none, none] none none none none (some (.ref rl)) (some (.ref hd)) ++ [(D, listP ys), (C, nsP ["v"] [none])] ++ keepers [it] s₃.heap) at S₃
    refine assign_Name (stlf 8 0 S₃ Vc rfl rfl fun s₄ S₄ d₄ => ?_)
    change St mg mb B' s₄.heap (LW L d z t w r h [some (.ref ls), some (.ref ln), none, none, none, none, none, none, none, none] none none none none (some (.ref rl)) (some (.ref hd)) ++ [(D, listP ys), (C, nsP ["v"] [some (.int n tn)])] ++ keepers [it] s₃.heap) at S₄
    refine Subscript_ (ldc 6 0 S₄ Vc rfl rfl (wpAny_BinOp (ldl 8 0 S₄ Vc rfl rfl rfl (wpAny_Constant_int (mod_int' (by decide) (pick_ (i := 3) ((hhl.mono ((hB₂.trans hB').trans S₄.hp)).isList) hhi (by omega) fun tp => ?_))))))
    refine ⟨B', _, [], ?_, Sub.refl _, by rw [List.append_nil]; exact S₄, d₄⟩
    have et : ((nums.drop 3).take (i + 1)).map (pickH 3) = ((nums.drop 3).take i).map (pickH 3) ++ [pickH 3 n] := by rw [List.take_add_one, hn]; simp
    rw [et]
    exact intsApp hys (intsOne _ _)
  · rintro D C ys B' s₃ hys hB' S₃ d₃
    refine post_evalf S₃ fun s₄ S₄ d₄ => ?_
    refine stcf 4 3 S₄ V rfl rfl fun s₅ S₅ d₅ => ?_
    rw [hdl] at hys
    have e4 : (nums.drop 3).take 4 = nums.drop 3 := List.take_of_length_le (by rw [List.length_drop, hlen]; decide)
    rw [e4] at hys
    have S₆ := S₅.wk 0 rfl (nsP.weak (lv' := l0) ⟨.inl rfl, .inl rfl, .inl rfl, .inl rfl, .inl rfl, .inl rfl, .inl rfl, .inl rfl, .inl rfl, .inl rfl, trivial⟩)
    obtain ⟨B₇, S₇, hB₇, hD₇⟩ := St.keep1 (ob := LW L d z t w r h l0 none none none (some (.ref D)) (some (.ref rl)) (some (.ref hd))) S₆
    exact hQ s₅ B₇ D ((hB₂.trans hB').trans hB₇) S₇ ⟨ys, hD₇, hys⟩ (d₁.trans (d₃.trans (d₄.trans d₅)))

theorem law_texts {rs : List (Int × Int)} {row : List Int} {lw hd rl : Addr} {Q : Flow → Shared → Prop} (V : Ev env L lN (lC d z t w r h) lG) (Rm : Room A 14 200) (hst : Strat rs) (h3 : rs.length = 3) (hrow : Ints B lw row) (hlen : row.length ≤ 50) (hsym : ∀ n ∈ row, Sym 3 n) (hr : Pairs B rl rs)
    (S : St mg mb B s.heap (LW L d z t w r h l0 none none none (some (.ref lw)) (some (.ref rl)) (some (.ref hd))))
    (hQ : ∀ s' B' lt, Sub B B' → St mg mb B' s'.heap (LW L d z t w r h l0 none none (some (.ref lt)) (some (.ref lw)) (some (.ref rl)) (some (.ref hd))) →
      Texts B' lt rs row → Side s s' → wpAny (model prog w') A (execs ((defAt 15).body.drop 6) env) Q E s') :
    wpAny (model prog w') A (execs ((defAt 15).body.drop 5) env) Q E s := by
  obtain ⟨vs, hvs, his⟩ := hrow
  have hvl : vs.length = row.length := his.length
  have hsub : ∀ p ∈ [(("rules" : Str), r)], p ∈ lC d z t w r h := fun p hp => by rw [List.mem_singleton.mp hp]; simp
  refine wpAny_execs_cons (wpAny_Assign_Name (comp_eval (nm := ["number"]) (gl := ["_law_spelt"]) (cells' := [("rules", r)]) V hsub (show compOk _ ["number"] ["rules"] ["_law_spelt"] = true by decide +kernel) ?_) (swaps_not (V.kc ("texts", t) (by simp)).1))
  refine ldc 4 3 S V rfl rfl ?_
  refine compL_go (nm := ["number"]) (gl := ["_law_spelt"]) (cells' := [("rules", r)]) V Rm.hh hsub (show compOk _ ["number"] ["rules"] ["_law_spelt"] = true by decide +kernel) S hvs (by omega) (fun i ys _ => StrsAre ys ((row.take i).map (textN rs))) .nil (fun _ _ _ _ _ h => h) ?_ ?_
  · rintro i v ys B' s₃ E₃ D C cenv it Vc hi hx hys hB' S₃
    obtain ⟨n, tn, hn, rfl⟩ := intsAt his hx
    change St mg mb B' s₃.heap (LW L d z t w r h l0 none none none (some (.ref lw)) (some (.ref rl)) (some (.ref hd)) ++ [(D, listP ys), (C, nsP ["number"] [none])] ++ keepers [it] s₃.heap) at S₃
    refine assign_Name (stlf 8 0 S₃ Vc rfl rfl fun s₄ S₄ d₄ => ?_)
    change St mg mb B' s₄.heap (LW L d z t w r h l0 none none none (some (.ref lw)) (some (.ref rl)) (some (.ref hd)) ++ [(D, listP ys), (C, nsP ["number"] [some (.int n tn)])] ++ keepers [it] s₃.heap) at S₄
    refine call2 9 (by decide) S₄ Vc rfl (by decide) fun a ha => ldl 8 0 S₄ Vc rfl rfl rfl (ldc 5 0 S₄ Vc rfl rfl ⟨S₄.w, ?_⟩)
    refine spelt rs hst rl 3 _ _ _ _ _ _ (by omega) (by omega) (hsym n (List.mem_of_getElem? hn)) S₄.w (Pairs.at (hr.mono (hB'.trans S₄.hp))) ha (Rm.le (by omega) (by omega)) fun s₅ t₅ g₅ => ?_
    refine ⟨B', _, [], ?_, Sub.refl _, by rw [List.append_nil]; exact S₄.grow g₅.keep, d₄.trans g₅.side⟩
    have et : (row.take (i + 1)).map (textN rs) = (row.take i).map (textN rs) ++ [textN rs n] := by rw [List.take_add_one, hn]; simp
    rw [et]
    exact strsApp hys (strsOne _ _)
  · rintro D C ys B' s₃ hys hB' S₃ d₃
    refine post_evalf S₃ fun s₄ S₄ d₄ => ?_
    refine stcf 3 2 S₄ V rfl rfl fun s₅ S₅ d₅ => ?_
    rw [hvl, List.take_length] at hys
    obtain ⟨B₇, S₇, hB₇, hD₇⟩ := St.keep1 (ob := LW L d z t w r h l0 none none (some (.ref D)) (some (.ref lw)) (some (.ref rl)) (some (.ref hd))) S₅
    exact hQ s₅ B₇ D (hB'.trans hB₇) S₇ ⟨ys, hD₇, hys⟩ (d₃.trans (d₄.trans d₅))

theorem law_leaves {rs : List (Int × Int)} {row : List Int} {lw hd rl lt : Addr} {Q : Flow → Shared → Prop} (V : Ev env L lN (lC d z t w r h) lG) (Rm : Room A 14 200) (hst : Strat rs) (h3 : rs.length = 3) (hrow : Ints B lw row) (hne : row ≠ []) (hlen : row.length ≤ 50) (hsym : ∀ n ∈ row, Sym 3 n) (hr : Pairs B rl rs)
    (S : St mg mb B s.heap (LW L d z t w r h l0 none none (some (.ref lt)) (some (.ref lw)) (some (.ref rl)) (some (.ref hd))))
    (hQ : ∀ s' B' ll, Sub B B' → St mg mb B' s'.heap (LW L d z t w r h [none, none, none, none, some (.ref ll), none, none, none, none, none] none none (some (.ref lt)) (some (.ref lw)) (some (.ref rl)) (some (.ref hd))) →
      Ints B' ll (row.flatMap (expand rs 3)) → Side s s' → wpAny (model prog w') A (execs ((defAt 15).body.drop 7) env) Q E s') :
    wpAny (model prog w') A (execs ((defAt 15).body.drop 6) env) Q E s := by
  refine wpAny_execs_cons (wpAny_Assign_Name (call2 11 (by decide) S V rfl (by decide) fun a ha => ldc 4 3 S V rfl rfl (ldc 5 4 S V rfl rfl ⟨S.w, ?_⟩)))
  refine leaves_ok hst h3 S.w ha (hrow.mono S.hp) (hr.mono S.hp) hne hlen hsym (Rm.le (by omega) (by omega)) fun s₁ ll g₁ hll => ?_
  obtain ⟨vs, ⟨o, ho, _⟩, _⟩ := hrow
  obtain ⟨B₁, S₁, hB₁, hn⟩ := S.after g₁ (fun a ha => by rw [List.mem_singleton.mp ha]; exact ⟨o, ho⟩)
  refine stlf 0 4 S₁ V rfl rfl fun s₂ S₂ d₂ => ?_
  exact hQ s₂ B₁ ll hB₁ S₂ (hll.mono hn) (g₁.side.trans d₂)

theorem law_sizes {lvs : List Int} {lw hd rl lt ll : Addr} {Q : Flow → Shared → Prop} (V : Ev env L lN (lC d z t w r h) lG) (hh : A.handled = none) (hll : Ints B ll lvs) (hlen : lvs.length ≤ 1000)
    (S : St mg mb B s.heap (LW L d z t w r h [none, none, none, none, some (.ref ll), none, none, none, none, none] none none (some (.ref lt)) (some (.ref lw)) (some (.ref rl)) (some (.ref hd))))
    (hQ : ∀ s' B' lz, Sub B B' → St mg mb B' s'.heap (LW L d z t w r h [none, none, none, none, some (.ref ll), none, none, none, none, none] none (some (.ref lz)) (some (.ref lt)) (some (.ref lw)) (some (.ref rl)) (some (.ref hd))) →
      Ints B' lz (lvs.map szOf) → Side s s' → wpAny (model prog w') A (execs ((defAt 15).body.drop 8) env) Q E s') :
    wpAny (model prog w') A (execs ((defAt 15).body.drop 7) env) Q E s := by
  obtain ⟨vs, hvs, his⟩ := hll
  have hvl : vs.length = lvs.length := his.length
  refine wpAny_execs_cons (wpAny_Assign_Name (comp_eval (nm := ["leaf"]) (gl := []) (cells' := []) V (fun p hp => nomatch hp) (show compOk _ ["leaf"] [] [] = true by decide +kernel) ?_) (swaps_not (V.kc ("sizes", z) (by simp)).1))
  refine ldl 0 4 S V rfl rfl rfl ?_
  refine compL_go (nm := ["leaf"]) (gl := []) (cells' := []) V hh (fun p hp => nomatch hp) (show compOk _ ["leaf"] [] [] = true by decide +kernel) S hvs (by omega) (fun i ys _ => IntsAre ys ((lvs.take i).map szOf)) .nil (fun _ _ _ _ _ h => h) ?_ ?_
  · rintro i v ys B' s₃ E₃ D C cenv it Vc hi hx hys hB' S₃
    obtain ⟨n, tn, hn, rfl⟩ := intsAt his hx
    change St mg mb B' s₃.heap (LW L d z t w r h [none, none, none, none, some (.ref ll), none, none, none, none, none] none none (some (.ref lt)) (some (.ref lw)) (some (.ref rl)) (some (.ref hd)) ++ [(D, listP ys), (C, nsP ["leaf"] [none])] ++ keepers [it] s₃.heap) at S₃
    refine assign_Name (stlf 8 0 S₃ Vc rfl rfl fun s₄ S₄ d₄ => ?_)
    change St mg mb B' s₄.heap (LW L d z t w r h [none, none, none, none, some (.ref ll), none, none, none, none, none] none none (some (.ref lt)) (some (.ref lw)) (some (.ref rl)) (some (.ref hd)) ++ [(D, listP ys), (C, nsP ["leaf"] [some (.int n tn)])] ++ keepers [it] s₃.heap) at S₄
    have fin : ∀ (s₅ : Shared) (m : Int) (tm : Tok), s₅.heap = s₄.heap → Side s₄ s₅ → m = szOf n → TurnEnd mg mb (LW L d z t w r h [none, none, none, none, some (.ref ll), none, none, none, none, none] none none (some (.ref lt)) (some (.ref lw)) (some (.ref rl)) (some (.ref hd))) D C ["leaf"] (keepers [it] s₃.heap) (IntsAre (ys ++ [.int m tm]) ((lvs.take (i + 1)).map szOf) |> fun p _ => p) B' ys s₃ s₅ := by
      intro s₅ m tm e₅ d₅ em
      refine ⟨B', _, [], ?_, Sub.refl _, by rw [List.append_nil, e₅]; exact S₄, d₄.trans d₅⟩
      have et : (lvs.take (i + 1)).map szOf = (lvs.take i).map szOf ++ [szOf n] := by rw [List.take_add_one, hn]; simp
      show IntsAre _ _
      rw [et, em]
      exact intsApp hys (intsOne _ _)
    refine IfExp_ (wpAny_isTrue_Compare1 (ldl 8 0 S₄ Vc rfl rfl rfl (wpAny_Constant_int (gt_int (wpAny_truthy_bool ?_)))))
    by_cases hb : n > 127
    · rw [decide_eq_true hb]
      simp only [if_true]
      exact wpAny_Constant_int (fin _ _ _ rfl (side_mk s₄ _ _) (by simp [szOf, hb]))
    · rw [decide_eq_false hb]
      simp only [Bool.false_eq_true, if_false]
      exact wpAny_Constant_int (fin _ _ _ rfl (side_mk s₄ _ _) (by simp [szOf, hb]))
  · rintro D C ys B' s₃ hys hB' S₃ d₃
    refine post_evalf S₃ fun s₄ S₄ d₄ => ?_
    refine stcf 2 1 S₄ V rfl rfl fun s₅ S₅ d₅ => ?_
    rw [hvl, List.take_length] at hys
    obtain ⟨B₇, S₇, hB₇, hD₇⟩ := St.keep1 (ob := LW L d z t w r h [none, none, none, none, some (.ref ll), none, none, none, none, none] none (some (.ref D)) (some (.ref lt)) (some (.ref lw)) (some (.ref rl)) (some (.ref hd))) S₅
    exact hQ s₅ B₇ D (hB'.trans hB₇) S₇ ⟨ys, hD₇, hys⟩ (d₃.trans (d₄.trans d₅))
end
end Mine
end
/-! ## F31 -/
section
set_option maxRecDepth 100000
set_option maxHeartbeats 400000
open PySem PySem.Calls PySem.W PyProof.Rows
namespace Mine
theorem join_fold (rs : List (Int × Int)) : ∀ (r l : List Int), ((r.map (textN rs)).foldl (fun acc p => acc ++ (#[] : Array Nat) ++ p.cps) (spellAll l).toArray) = (spellAll (l ++ r.flatMap (expand rs 3))).toArray
  | [], l => by simp
  | n :: r, l => by
    rw [List.map_cons, List.foldl_cons]
    have e : (spellAll l).toArray ++ (#[] : Array Nat) ++ (textN rs n).cps = (spellAll (l ++ expand rs 3 n)).toArray := by
      rw [spellAll_append]; simp [textN, textOf]
    rw [e, join_fold rs r (l ++ expand rs 3 n)]
    simp
theorem join_texts (rs : List (Int × Int)) {g : Str} (hg : g.cps = #[]) (ns : List Int) : Txt.join g (ns.map (textN rs)) = textOf (ns.flatMap (expand rs 3)) := by
  show (⟨((ns.map (textN rs)).drop 1).foldl (fun acc p => acc ++ g.cps ++ p.cps) ((ns.map (textN rs)).headD Str.empty).cps⟩ : Str) = _
  rw [hg]
  cases ns with
  | nil => rfl
  | cons n r =>
    show (⟨(r.map (textN rs)).foldl (fun acc p => acc ++ (#[] : Array Nat) ++ p.cps) (spellAll (expand rs 3 n)).toArray⟩ : Str) = _
    rw [join_fold]
    rfl
theorem texts_len (rs : List (Int × Int)) : ∀ ns : List Int, ((ns.map (textN rs)).map (·.length)).sum ≤ 16 * ns.length
  | [] => by simp
  | n :: r => by
    have ih := texts_len rs r
    have h1 : (textN rs n).length ≤ 16 := by
      show ((spellAll (expand rs 3 n)).toArray).size ≤ 16
      have := spellAll_length (expand rs 3 n)
      have := expand_length rs 3 n
      rw [List.size_toArray]; omega
    simp only [List.map_cons, List.sum_cons, List.length_cons]; omega
theorem sum_upto {val : Nat → Int} {ns : List Int} (hv : ∀ i, i < ns.length → ns[i]? = some (val i)) : ∀ k, k ≤ ns.length → preSum val k = (ns.take k).sum := by
  intro k
  induction k with
  | zero => intro _; simp [preSum]
  | succ k ih =>
    intro hk
    rw [List.take_add_one, hv k (by omega)]
    simp only [preSum, ih (by omega), Option.toList_some, List.sum_append, List.sum_cons, List.sum_nil, Int.add_zero]
def placeN (ls : List Int) (i : Nat) : Int := (off ls (i + 1) : Int) - 1
theorem off_sum (ls : List Int) : ∀ k, k ≤ ls.length → (∀ x ∈ ls, Leaf x) → (off ls k : Int) = ((ls.map szOf).take k).sum
  | 0, _, _ => by simp [off, spellAll]
  | k + 1, hk, hl => by
    obtain ⟨x, hx⟩ : ∃ x, ls[k]? = some x := ⟨_, List.getElem?_eq_getElem hk⟩
    have ih := off_sum ls k (by omega) hl
    have e1 : (ls.map szOf)[k]? = some (szOf x) := by rw [List.getElem?_map, hx]; rfl
    rw [off_succ hx, List.take_add_one, e1]
    have e2 : ((spellN x).length : Int) = szOf x := by
      unfold spellN szOf
      split
      · rw [if_neg (by omega)]; rfl
      · rw [if_pos (by omega)]; rfl
    have e3 : (((ls.map szOf).take k ++ (some (szOf x)).toList).sum : Int) = ((ls.map szOf).take k).sum + szOf x := by simp
    rw [e3]
    push_cast
    rw [ih, e2]
section
variable {prog : Program} {w' : World} {A : Around} {E : Value → Shared → Prop} {s : Shared} {mg mb : Str → Option Value} {B : Rl} {ob : Ob} {env : Env}
/-- '' joined over texts -/
theorem join_ {sep : String} {kk : Nat} {cp : Pos} {e : PySem.Expr} {apos pos : Pos} {rs : List (Int × Int)} {Q : Value → Shared → Prop} (hsep : (Str.ofString sep).cps = #[])
    (h : ∀ s₀, s₀.heap = s.heap → Side s s₀ → wpAny (model prog w') A (eval e env) (fun v s₁ => ∃ (l : Addr) (vs : List Value) (ns : List Int), v = .ref l ∧ s₁.heap.IsList l vs.toArray ∧ StrsAre vs (ns.map (textN rs)) ∧ ns.length ≤ 1000 ∧ ∀ t s₂, s₂.heap = s₁.heap → Side s₁ s₂ → Q (.str (textOf (ns.flatMap (expand rs 3))) t) s₂) E s₀)
    (hfew : ((backTo pos (starEach [e] env)).all (fun x => !x.1) && (backToKw pos (keywordEach [] env)).all (fun x => x.1.isSome)
      && decide (([e] : List PySem.Expr).length + ([] : List Keyword).length + (if ([] : List Keyword).isEmpty then 0 else 1) < 30)) = true := by rfl)
    (hline : (apos.endLine == pos.line) = true := by rfl)
    (htrees : backTo pos (starEach [e] env) = [(false, eval e env)] := by rfl) :
    wpAny (model prog w') A (eval (.Call (.Attribute (.Constant (.str (Str.ofString sep)) kk cp) "join" apos) [e] [] pos) env) Q E s := by
  refine wpAny_Call_method (T := "str") (id := "str.join") rfl hfew hline F.plainAttrs_str F.slot_str_join F.type_str_join (Constant_str ?_)
  refine ⟨typeIs_str _ _ _, (fun a e => nomatch e), ?_⟩
  rw [htrees]
  refine callWith_builtin rfl (evalArgs_plain (spliced_cons (wpAny_mono (h _ ?_ ?_) (fun v s₁ h₁ => spliced_nil ?_) fun _ _ e => e)))
  · rfl
  · exact side_mk s _ _
  · obtain ⟨l, vs, ns, rfl, hl, hvs, hn, hQ⟩ := h₁
    have htl := texts_len rs ns
    have hg0 : (Str.ofString sep).length = 0 := by show (Str.ofString sep).cps.size = 0; rw [hsep]; rfl
    refine join_list hl (by simpa using hvs) (by rw [hg0]; simp only [Nat.mul_zero]; omega) fun t' k => ?_
    rw [join_texts rs hsep]
    exact hQ _ _ rfl (side_mk s₁ _ _)
theorem sumf {l : Addr} {vs : List Value} {ns : List Int} {Q : Value → Shared → Prop} (S : St mg mb B s.heap ob) (hl : s.heap.IsList l vs.toArray) (hi : IntsAre vs ns) (hh : A.handled = none)
    (h : ∀ t s', St mg mb B s'.heap ob → Side s s' → Q (.int ns.sum t) s') : wpAny (model prog w') A (call (.builtin "sum") [.ref l]) Q E s := by
  obtain ⟨xs, e1, e2, e3⟩ := intsPack hi
  rw [e1] at hl
  refine sum_intListG hh hl fun h' tk t' hk => ?_
  rw [e2, sum_upto e3 ns.length (Nat.le_refl _), List.take_length]
  exact h t' _ (S.grow hk) (side_mk s _ _)
end
section
variable {prog : Program} {w' : World} {A : Around} {E : Value → Shared → Prop} {s : Shared} {mg mb : Str → Option Value} {B : Rl} {env : Env} {L d z t w r h : Addr}
abbrev FrP (ll : Addr) (p : Option Value) : List (Option Value) := [none, none, none, none, some (.ref ll), p, none, none, none, none]
theorem law_places {rs : List (Int × Int)} {row ls : List Int} {lw hd rl lt ll lz : Addr} {Q : Flow → Shared → Prop} (V : Ev env L lN (lC d z t w r h) lG) (Rm : Room A 14 200) (hlt : Texts B lt rs row) (hlen : row.length ≤ 50)
    (hls : ls = row.flatMap (expand rs 3)) (hlf : ∀ x ∈ ls, Leaf x) (hll : ls.length ≤ 1000)
    (S : St mg mb B s.heap (LW L d z t w r h (FrP ll none) none (some (.ref lz)) (some (.ref lt)) (some (.ref lw)) (some (.ref rl)) (some (.ref hd))))
    (hQ : ∀ s' B' lp, Sub B B' → St mg mb B' s'.heap (LW L d z t w r h (FrP ll (some (.ref lp))) none (some (.ref lz)) (some (.ref lt)) (some (.ref lw)) (some (.ref rl)) (some (.ref hd))) →
      Ints B' lp ((List.range ls.length).map (placeN ls)) → Side s s' → wpAny (model prog w') A (execs ((defAt 15).body.drop 9) env) Q E s') :
    wpAny (model prog w') A (execs ((defAt 15).body.drop 8) env) Q E s := by
  obtain ⟨vs, hvs, his⟩ := hlt
  refine wpAny_execs_cons (comp_asg (nm := ["place", "unit"]) (gl := []) 0 5 V rfl (cells' := []) (fun p hp => nomatch hp) (show compOk _ ["place", "unit"] [] [] = true by decide +kernel) ?_ rfl (by decide +kernel))
  refine call1 4 (by decide) S V rfl (by decide) fun a ha => ?_
  refine join_ (rs := rs) rfl fun s₀ e₀ d₀ => ldc (s := s₀) 3 2 (e₀ ▸ S) V rfl rfl ⟨lt, vs, row, rfl, (hvs.mono (e₀ ▸ S.hp)).isList, his, by omega, fun t₁ s₁ e₁ d₁ => ?_⟩
  have S₁ : St mg mb B s₁.heap _ := (e₁.trans e₀).symm ▸ S
  rw [← hls]
  refine ⟨S₁.w, ?_⟩
  refine esc_go (nm := ["place", "unit"]) (gl := []) (cells' := []) V (fun p hp => nomatch hp) (show compOk _ ["place", "unit"] [] [] = true by decide +kernel) hlf hll ha (Rm.le (by omega) (by omega)) S₁
    (fun i ys _ => IntsAre ys ((List.range i).map (placeN ls))) .nil (fun _ _ _ _ _ h => h) ?_ ?_
  · rintro wr i v ys B' s₃ E₃ D C cenv Vc hi hys hB' S₃ ⟨T, u₁, u₂, x, rfl, hx, hT⟩ sd₃
    change St mg mb B' s₃.heap (LW L d z t w r h (FrP ll none) none (some (.ref lz)) (some (.ref lt)) (some (.ref lw)) (some (.ref rl)) (some (.ref hd)) ++ [(D, listP ys), (C, nsP ["place", "unit"] [none, none])] ++ keepers wr s₃.heap) at S₃
    refine asg2 8 0 1 S₃ Vc Rm.hh (hT.mono S₃.hp).isTup rfl rfl rfl fun h₄ tk₄ S₄ => ?_
    change St mg mb B' h₄ (LW L d z t w r h (FrP ll none) none (some (.ref lz)) (some (.ref lt)) (some (.ref lw)) (some (.ref rl)) (some (.ref hd)) ++ [(D, listP ys), (C, nsP ["place", "unit"] [some (.int ((off ls (i + 1) : Int) - 1) u₁), some (.str (textOf [x]) u₂)])] ++ keepers wr s₃.heap) at S₄
    refine ldl 8 0 S₄ Vc rfl rfl rfl ?_
    refine ⟨B', _, [], ?_, Sub.refl _, by rw [List.append_nil]; exact S₄, side_mk s₃ _ _⟩
    rw [List.range_succ, List.map_append]
    exact intsApp hys (intsOne _ _)
  · rintro D C ys B' s₃ hys hB' S₃ d₃
    refine post_asgf 0 5 V rfl rfl S₃ fun s₄ S₄ d₄ => ?_
    obtain ⟨B₇, S₇, hB₇, hD₇⟩ := St.keep1 (ob := LW L d z t w r h (FrP ll (some (.ref D))) none (some (.ref lz)) (some (.ref lt)) (some (.ref lw)) (some (.ref rl)) (some (.ref hd))) S₄
    exact hQ s₄ B₇ D (hB'.trans hB₇) S₇ ⟨ys, hD₇, hys⟩ ((d₀.trans d₁).trans (d₃.trans d₄))

theorem law_if1 {ls : List Int} {lw hd rl lt ll lz lp : Addr} {Q : Flow → Shared → Prop} (V : Ev env L lN (lC d z t w r h) lG) (Rm : Room A 14 200)
    (hlf : ∀ x ∈ ls, Leaf x) (hll : ls.length ≤ 1000) (hz : Ints B lz (ls.map szOf)) (hp : Ints B lp ((List.range ls.length).map (placeN ls)))
    (S : St mg mb B s.heap (LW L d z t w r h (FrP ll (some (.ref lp))) none (some (.ref lz)) (some (.ref lt)) (some (.ref lw)) (some (.ref rl)) (some (.ref hd))))
    (hQ : ∀ s' B', Sub B B' → St mg mb B' s'.heap (LW L d z t w r h (FrP ll none) none (some (.ref lz)) (some (.ref lt)) (some (.ref lw)) (some (.ref rl)) (some (.ref hd))) →
      Side s s' → wpAny (model prog w') A (execs ((defAt 15).body.drop 10) env) Q E s') :
    wpAny (model prog w') A (execs ((defAt 15).body.drop 9) env) Q E s := by
  obtain ⟨zs, hzs, hiz⟩ := hz
  obtain ⟨ps, hps, hip⟩ := hp
  have hzl : zs.length = ls.length := hiz.length.trans (by simp)
  have hsub : ∀ p ∈ [(("sizes" : Str), z)], p ∈ lC d z t w r h := fun p hp => by rw [List.mem_singleton.mp hp]; simp
  refine wpAny_execs_cons (wpAny_If (wpAny_isTrue_Compare1 (ldl 0 5 S V rfl rfl rfl ?_)))
  refine comp_eval (nm := ["k"]) (gl := ["sum"]) (cells' := [("sizes", z)]) V hsub (show compOk _ ["k"] ["sizes"] ["sum"] = true by decide +kernel) ?_
  refine tcall1 (id := "range") S V (by decide) (by decide) (by rfl) (bcall1 (id := "len") S V (by decide) (by decide) (by rfl) (ldc 2 1 S V rfl rfl (lenLf (hzs.mono S.hp).isList (by omega) fun t₁ s₁ e₁ d₁ => ?_)))
  have S₁ : St mg mb B s₁.heap _ := e₁.symm ▸ S
  refine compR_go (nm := ["k"]) (gl := ["sum"]) (cells' := [("sizes", z)]) V Rm.hh hsub (show compOk _ ["k"] ["sizes"] ["sum"] = true by decide +kernel) S₁ (by omega)
    (fun i ys _ => IntsAre ys ((List.range i).map fun k => (((ls.map szOf).take (k + 1)).sum - 1))) .nil (fun _ _ _ _ _ h => h) ?_ ?_
  · rintro i ti ys B' s₃ E₃ D C cenv it Vc hi hys hB' S₃
    change St mg mb B' s₃.heap (LW L d z t w r h (FrP ll (some (.ref lp))) none (some (.ref lz)) (some (.ref lt)) (some (.ref lw)) (some (.ref rl)) (some (.ref hd)) ++ [(D, listP ys), (C, nsP ["k"] [none])] ++ keepers [it] s₃.heap) at S₃
    refine assign_Name (stlf 8 0 S₃ Vc rfl rfl fun s₄ S₄ d₄ => ?_)
    change St mg mb B' s₄.heap (LW L d z t w r h (FrP ll (some (.ref lp))) none (some (.ref lz)) (some (.ref lt)) (some (.ref lw)) (some (.ref rl)) (some (.ref hd)) ++ [(D, listP ys), (C, nsP ["k"] [some (.int i ti)])] ++ keepers [it] s₃.heap) at S₄
    refine wpAny_BinOp (bcall1 (id := "sum") S₄ Vc (by decide) (by decide) (by rfl) (slicef (mg := mg) (mb := mb) (ldc 2 0 S₄ Vc rfl rfl (wpAny_pure (wpAny_evalPart_some (wpAny_BinOp (ldl 8 0 S₄ Vc rfl rfl rfl (wpAny_Constant_int (add_int ⟨lz, zs, _, _, rfl, (hzs.mono (hB'.trans S₄.hp)).isList, by omega, .none, .int _ _, _, _, S₄, fun D₁ s₅ S₅ d₅ => ?_⟩)))))))))
    rw [show (some ((i : Int) + 1) : Option Int) = some ((i + 1 : Nat) : Int) from rfl, pickTo] at S₅
    refine sumf S₅ (S₅.own (D₁, _) (List.mem_append_right _ (.head _))).1.isList (hiz.take (i + 1)) Rm.hh fun t₆ s₆ S₆ d₆ => wpAny_Constant_int (sub_int ?_)
    refine ⟨B', _, [(D₁, listP _)], ?_, Sub.refl _, S₆, d₄.trans ((side_mk s₄ _ _).trans (d₅.trans (d₆.trans (side_mk s₆ _ _))))⟩
    rw [List.range_succ, List.map_append]
    exact intsApp hys (intsOne _ _)
  · rintro D C ys B' s₃ hys hB' S₃ d₃
    refine post_evalf S₃ fun s₄ S₄ d₄ => ?_
    refine ke_ne_ints ((hps.mono (hB'.trans S₄.hp)).isList) (S₄.own (D, _) (List.mem_append_right _ (.head _))).1.isList hip hys (by have := Rm.hu; omega) (wpAny_truthy_bool ?_)
    have eq : (List.range ls.length).map (placeN ls) = (List.range zs.length).map (fun k => (((ls.map szOf).take (k + 1)).sum - 1)) := by
      rw [hzl]
      refine List.map_congr_left fun k hk => ?_
      have := List.mem_range.mp hk
      unfold placeN
      rw [off_sum ls (k + 1) (by omega) hlf]
    rw [decide_eq_true eq]
    simp only [Bool.not_true, Bool.false_eq_true, if_false]
    refine wpAny_execs_nil ?_
    have S₅ := (S₄.wk 0 rfl (nsP.weak (lv' := FrP ll none) ⟨.inr rfl, .inr rfl, .inr rfl, .inr rfl, .inr rfl, .inl rfl, .inr rfl, .inr rfl, .inr rfl, .inr rfl, trivial⟩))
    have S₆ := S₅.sub (List.sublist_append_left (LW L d z t w r h (FrP ll none) none (some (.ref lz)) (some (.ref lt)) (some (.ref lw)) (some (.ref rl)) (some (.ref hd))) _)
    exact hQ s₄ B' hB' S₆ ((d₁.trans d₃).trans d₄)
end
end Mine
end
/-! ## F32 -/
section
set_option maxRecDepth 100000
set_option maxHeartbeats 400000
open PySem PySem.Calls PySem.W PyProof.Rows
namespace Mine
section
variable {prog : Program} {w' : World} {A : Around} {E : Value → Shared → Prop} {s : Shared} {mg mb : Str → Option Value} {B : Rl} {env : Env} {L d z t w r h : Addr}
abbrev FrU (ll : Addr) (lu : Option Value) : List (Option Value) := [none, none, none, none, some (.ref ll), none, lu, none, none, none]
abbrev FrV (lu f p q : Option Value) : List (Option Value) := [none, none, none, none, none, none, lu, f, p, q]
theorem law_units {rs : List (Int × Int)} {row ls : List Int} {lw hd rl lt ll lz : Addr} {Q : Flow → Shared → Prop} (V : Ev env L lN (lC d z t w r h) lG) (Rm : Room A 14 200) (hlt : Texts B lt rs row) (hlen : row.length ≤ 50)
    (hls : ls = row.flatMap (expand rs 3)) (hlf : ∀ x ∈ ls, Leaf x) (hll : ls.length ≤ 1000)
    (S : St mg mb B s.heap (LW L d z t w r h (FrU ll none) none (some (.ref lz)) (some (.ref lt)) (some (.ref lw)) (some (.ref rl)) (some (.ref hd))))
    (hQ : ∀ s' B' lu, Sub B B' → St mg mb B' s'.heap (LW L d z t w r h (FrU ll (some (.ref lu))) none (some (.ref lz)) (some (.ref lt)) (some (.ref lw)) (some (.ref rl)) (some (.ref hd))) →
      Ints B' lu ls → Side s s' → wpAny (model prog w') A (execs ((defAt 15).body.drop 11) env) Q E s') :
    wpAny (model prog w') A (execs ((defAt 15).body.drop 10) env) Q E s := by
  obtain ⟨vs, hvs, his⟩ := hlt
  refine wpAny_execs_cons (wpAny_Assign_Name (call1 10 (by decide) S V rfl (by decide) fun a ha => ?_))
  refine join_ (rs := rs) rfl fun s₀ e₀ d₀ => ldc (s := s₀) 3 2 (e₀ ▸ S) V rfl rfl ⟨lt, vs, row, rfl, (hvs.mono (e₀ ▸ S.hp)).isList, his, by omega, fun t₁ s₁ e₁ d₁ => ?_⟩
  have S₁ : St mg mb B s₁.heap _ := (e₁.trans e₀).symm ▸ S
  rw [← hls]
  refine ⟨S₁.w, units_ok S₁.w ha hlf hll (Rm.le (by omega) (by omega)) fun s₂ lu g₂ hlu => ?_⟩
  obtain ⟨B₂, S₂, hB₂, hn⟩ := S₁.after g₂ (as := []) (fun a ha => nomatch ha)
  refine stlf 0 6 S₂ V rfl rfl fun s₃ S₃ d₃ => ?_
  exact hQ s₃ B₂ lu hB₂ S₃ (hlu.mono hn) ((d₀.trans d₁).trans (g₂.side.trans d₃))

theorem law_told {rs : List (Int × Int)} {ls : List Int} {lw hd rl lt ll lz lu : Addr} {Q : Flow → Shared → Prop} (V : Ev env L lN (lC d z t w r h) lG) (Rm : Room A 14 200) (hlu : Ints B lu ls) (hr : Pairs B rl rs) (hll : ls.length ≤ 1000)
    (S : St mg mb B s.heap (LW L d z t w r h (FrU ll (some (.ref lu))) none (some (.ref lz)) (some (.ref lt)) (some (.ref lw)) (some (.ref rl)) (some (.ref hd))))
    (hQ : ∀ s' B' ld, Sub B B' → St mg mb B' s'.heap (LW L d z t w r h (FrU ll (some (.ref lu))) (some (.ref ld)) (some (.ref lz)) (some (.ref lt)) (some (.ref lw)) (some (.ref rl)) (some (.ref hd))) →
      Ints B' ld (written rs ls) → Side s s' → wpAny (model prog w') A (execs ((defAt 15).body.drop 12) env) Q E s') :
    wpAny (model prog w') A (execs ((defAt 15).body.drop 11) env) Q E s := by
  refine wpAny_execs_cons (wpAny_Assign_Name (call2 12 (by decide) S V rfl (by decide) fun a ha => ldl 0 6 S V rfl rfl rfl (ldc 5 4 S V rfl rfl ⟨S.w, ?_⟩)))
  refine written_ok S.w ha (hlu.mono S.hp) (hr.mono S.hp) hll (Rm.le (by omega) (by omega)) fun s₁ ld g₁ hld => ?_
  obtain ⟨vs, ⟨o, ho, _⟩, _⟩ := hlu
  obtain ⟨B₁, S₁, hB₁, hn⟩ := S.after g₁ (fun a ha => by rw [List.mem_singleton.mp ha]; exact ⟨o, ho⟩)
  refine stcf 1 0 S₁ V rfl rfl fun s₂ S₂ d₂ => ?_
  exact hQ s₂ B₁ ld hB₁ S₂ (hld.mono hn) (g₁.side.trans d₂)

theorem law_if2 {rs : List (Int × Int)} {ls td : List Int} {lw hd rl lt ll lz lu ld : Addr} {Q : Flow → Shared → Prop} (V : Ev env L lN (lC d z t w r h) lG) (Rm : Room A 14 200) (hld : Ints B ld td) (hll : Ints B ll ls) (hr : Pairs B rl rs) (hlen : ls.length ≤ 1000) (hne : ls ≠ []) (hrl : rs.length ≤ 100)
    (hm : ∀ l, Melts rs ls.length ls l → td = l)
    (S : St mg mb B s.heap (LW L d z t w r h (FrU ll (some (.ref lu))) (some (.ref ld)) (some (.ref lz)) (some (.ref lt)) (some (.ref lw)) (some (.ref rl)) (some (.ref hd))))
    (hQ : ∀ s' B', Sub B B' → St mg mb B' s'.heap (LW L d z t w r h (FrV (some (.ref lu)) none none none) (some (.ref ld)) (some (.ref lz)) (some (.ref lt)) (some (.ref lw)) (some (.ref rl)) (some (.ref hd))) →
      Side s s' → wpAny (model prog w') A (execs ((defAt 15).body.drop 13) env) Q E s') :
    wpAny (model prog w') A (execs ((defAt 15).body.drop 12) env) Q E s := by
  obtain ⟨vd, hvd, hid⟩ := hld
  refine wpAny_execs_cons (wpAny_If (wpAny_isTrue_Compare1 (ldc 1 0 S V rfl rfl ?_)))
  refine call2 13 (by decide) S V rfl (by decide) fun a ha => ldl 0 4 S V rfl rfl rfl (ldc 5 4 S V rfl rfl ⟨S.w, ?_⟩)
  refine melted_ok S.w ha (hll.mono S.hp) (hr.mono S.hp) hrl hne hlen (Rm.le (by omega) (by omega)) fun s₁ lm l g₁ hlm hml => ?_
  obtain ⟨B₁, S₁, hB₁, hn⟩ := S.after g₁ (as := []) (fun a ha => nomatch ha)
  obtain ⟨vm, hvm, him⟩ := hlm.mono (hn.trans S₁.hp)
  refine ke_ne_ints ((hvd.mono (hB₁.trans S₁.hp)).isList) hvm.isList hid him (by have := Rm.hu; omega) (wpAny_truthy_bool ?_)
  rw [decide_eq_true (hm l hml)]
  simp only [Bool.not_true, Bool.false_eq_true, if_false]
  refine wpAny_execs_nil ?_
  have S₅ := S₁.wk 0 rfl (nsP.weak (lv' := FrV (some (.ref lu)) none none none) ⟨.inr rfl, .inr rfl, .inr rfl, .inr rfl, .inl rfl, .inr rfl, .inr rfl, .inr rfl, .inr rfl, .inr rfl, trivial⟩)
  exact hQ s₁ B₁ hB₁ S₅ g₁.side
end
end Mine
end
/-! ## F33 -/
section
set_option maxRecDepth 100000
set_option maxHeartbeats 400000
open PySem PySem.Calls PySem.W PyProof.Rows
namespace Mine
def boolOf : Value → Bool
  | .bool b => b
  | _ => true
section
variable {prog : Program} {w' : World} {A : Around} {E : Value → Shared → Prop} {s : Shared} {mg mb : Str → Option Value} {B : Rl} {env : Env} {L d z t w r h : Addr}
theorem addStrf {x y : Str} {t u : Tok} {Q : Value → Shared → Prop} (hsz : x.length + y.length ≤ 16777216) (h : ∀ t' s', s'.heap = s.heap → Side s s' → Q (.str (x ++ y) t') s') : wpAny (model prog w') A (binaryOp .Add (.str x t) (.str y u)) Q E s :=
  add_str (fun _ _ => h _ _ rfl (side_mk s _ _)) (by rw [sizeLine_eq]; exact hsz)
theorem textN_len (rs : List (Int × Int)) (n : Int) : (textN rs n).length ≤ 16 := by
  show ((spellAll (expand rs 3 n)).toArray).size ≤ 16
  have := spellAll_length (expand rs 3 n)
  have := expand_length rs 3 n
  rw [List.size_toArray]; omega
theorem law_fits {rs : List (Int × Int)} {row : List Int} {lw hd rl lt lz lu ld : Addr} {Q : Flow → Shared → Prop} (V : Ev env L lN (lC d z t w r h) lG) (Rm : Room A 14 200) (hlt : Texts B lt rs row) (hrow : Ints B lw row) (hlen : row.length = 4) (hr : Pairs B rl rs)
    (hlf : ∀ n ∈ row, ∀ x ∈ expand rs 3 n, Leaf x)
    (S : St mg mb B s.heap (LW L d z t w r h (FrV (some (.ref lu)) none none none) (some (.ref ld)) (some (.ref lz)) (some (.ref lt)) (some (.ref lw)) (some (.ref rl)) (some (.ref hd))))
    (hQ : ∀ s' B' lf, Sub B B' → St mg mb B' s'.heap (LW L d z t w r h (FrV (some (.ref lu)) (some (.ref lf)) none none) (some (.ref ld)) (some (.ref lz)) (some (.ref lt)) (some (.ref lw)) (some (.ref rl)) (some (.ref hd))) →
      Lst B' lf ((List.range 3).map fun k => Value.bool (fitB rs row k)) → Side s s' → wpAny (model prog w') A (execs ((defAt 15).body.drop 14) env) Q E s') :
    wpAny (model prog w') A (execs ((defAt 15).body.drop 13) env) Q E s := by
  obtain ⟨ts, hts, hit⟩ := hlt
  obtain ⟨ws, hws, hiw⟩ := id hrow
  have hwl : ws.length = 4 := hiw.length.trans hlen
  have hsub : ∀ p ∈ [(("row" : Str), w), ("rules", r), ("texts", t)], p ∈ lC d z t w r h := fun p hp => by simp at hp ⊢; rcases hp with rfl | rfl | rfl <;> simp
  refine wpAny_execs_cons (comp_asg (nm := ["k"]) (gl := ["_law_written", "_law_units"]) 0 7 V rfl (cells' := [("row", w), ("rules", r), ("texts", t)]) hsub (show compOk _ ["k"] ["row", "rules", "texts"] ["_law_written", "_law_units"] = true by decide +kernel) ?_ rfl (by decide +kernel))
  refine tcall1 (id := "range") S V (by decide) (by decide) (by rfl) (cintf fun t₁ s₁ e₁ d₁ => ?_)
  have S₁ : St mg mb B s₁.heap _ := e₁.symm ▸ S
  refine compR_go (n := 3) (nm := ["k"]) (gl := ["_law_written", "_law_units"]) (cells' := [("row", w), ("rules", r), ("texts", t)]) V Rm.hh hsub (show compOk _ ["k"] ["row", "rules", "texts"] ["_law_written", "_law_units"] = true by decide +kernel) S₁ (by omega)
    (fun i ys _ => ys = (List.range i).map fun k => Value.bool (fitB rs row k)) rfl (fun _ _ _ _ _ h => h) ?_ ?_
  · rintro i ti ys B' s₃ E₃ D C cenv it Vc hi hys hB' S₃
    change St mg mb B' s₃.heap (LW L d z t w r h (FrV (some (.ref lu)) none none none) (some (.ref ld)) (some (.ref lz)) (some (.ref lt)) (some (.ref lw)) (some (.ref rl)) (some (.ref hd)) ++ [(D, listP ys), (C, nsP ["k"] [none])] ++ keepers [it] s₃.heap) at S₃
    obtain ⟨n₁, hn₁⟩ : ∃ n, row[i]? = some n := ⟨_, List.getElem?_eq_getElem (by omega)⟩
    obtain ⟨n₂, hn₂⟩ : ∃ n, row[i + 1]? = some n := ⟨_, List.getElem?_eq_getElem (by omega)⟩
    obtain ⟨u₁, hu₁⟩ := strsGet hit (i := i) (x := textN rs n₁) (by rw [List.getElem?_map, hn₁]; rfl)
    obtain ⟨u₂, hu₂⟩ := strsGet hit (i := i + 1) (x := textN rs n₂) (by rw [List.getElem?_map, hn₂]; rfl)
    have hfl : fitL rs row i = expand rs 3 n₁ ++ expand rs 3 n₂ := by unfold fitL; rw [hn₁, hn₂]; rfl
    refine assign_Name (stlf 8 0 S₃ Vc rfl rfl fun s₄ S₄ d₄ => ?_)
    change St mg mb B' s₄.heap (LW L d z t w r h (FrV (some (.ref lu)) none none none) (some (.ref ld)) (some (.ref lz)) (some (.ref lt)) (some (.ref lw)) (some (.ref rl)) (some (.ref hd)) ++ [(D, listP ys), (C, nsP ["k"] [some (.int i ti)])] ++ keepers [it] s₃.heap) at S₄
    have hT₄ := (hts.mono (hB'.trans S₄.hp)).isList
    refine wpAny_Compare1 (call2 12 (by decide) S₄ Vc rfl (by decide) fun a₁ ha₁ => call1 10 (by decide) S₄ Vc rfl (by decide) fun a₂ ha₂ => wpAny_BinOp (Subscript_ (ldc 3 2 S₄ Vc rfl rfl (ldl 8 0 S₄ Vc rfl rfl rfl (item_listL hT₄ (by omega) (by omega) (x := .str (textN rs n₁) u₁) (by simpa using hu₁) ?_)))))
    refine Subscript_ (ldc 3 2 S₄ Vc rfl rfl (wpAny_BinOp (ldl 8 0 S₄ Vc rfl rfl rfl (wpAny_Constant_int (addf fun t₅ s₅ e₅ d₅ => ?_)))))
    have S₅ : St mg mb B' s₅.heap _ := (show s₅.heap = s₄.heap from e₅).symm ▸ S₄
    refine item_listL (hts.mono (hB'.trans S₅.hp)).isList (by omega) (by omega) (x := .str (textN rs n₂) u₂) (by simpa using hu₂) ?_
    refine addStrf (by have := textN_len rs n₁; have := textN_len rs n₂; omega) fun t₆ s₆ e₆ d₆ => ?_
    have S₆ : St mg mb B' s₆.heap _ := e₆.symm ▸ S₅
    have ex : textN rs n₁ ++ textN rs n₂ = textOf (fitL rs row i) := by rw [hfl, textOf_append]; rfl
    rw [ex]
    have hleaf : ∀ x ∈ fitL rs row i, Leaf x := by
      rw [hfl]
      intro x hx
      rcases List.mem_append.mp hx with hx | hx
      · exact hlf n₁ (List.mem_of_getElem? hn₁) x hx
      · exact hlf n₂ (List.mem_of_getElem? hn₂) x hx
    have hfll : (fitL rs row i).length ≤ 16 := by
      rw [hfl, List.length_append]
      have := expand_length rs 3 n₁
      have := expand_length rs 3 n₂
      omega
    refine ⟨S₆.w, units_ok S₆.w ha₂ hleaf (by omega) (Rm.le (by omega) (by omega)) fun s₇ lq g₇ hlq => ?_⟩
    obtain ⟨B₇, S₇, hB₇, hn₇⟩ := S₆.after g₇ (as := []) (fun a ha => nomatch ha)
    have hlq₇ := hlq.mono hn₇
    refine ldc (s := s₇) 5 1 S₇ Vc rfl rfl ⟨S₇.w, ?_⟩
    refine written_ok S₇.w ha₁ (hlq₇.mono S₇.hp) (hr.mono ((hB'.trans hB₇).trans S₇.hp)) (by omega) (Rm.le (by omega) (by omega)) fun s₈ lo g₈ hlo => ?_
    obtain ⟨vq, ⟨oq, hoq, _⟩, _⟩ := id hlq₇
    obtain ⟨B₈, S₈, hB₈, hn₈⟩ := S₇.after g₈ (fun a ha => by rw [List.mem_singleton.mp ha]; exact ⟨oq, hoq⟩)
    obtain ⟨vo, hvo, hio⟩ := hlo.mono hn₈
    have hk₈ : Sub B B₈ := (hB'.trans hB₇).trans hB₈
    refine slicef (s := s₈) (mg := mg) (mb := mb) (ldc (s := s₈) 4 0 S₈ Vc rfl rfl (wpAny_evalPart_some (ldl 8 0 S₈ Vc rfl rfl rfl (wpAny_evalPart_some (wpAny_BinOp (ldl 8 0 S₈ Vc rfl rfl rfl (wpAny_Constant_int (addf fun t₉ s₉ e₉ d₉ => ?_))))))))
    have S₉ : St mg mb B₈ s₉.heap _ := (show s₉.heap = s₈.heap from e₉).symm ▸ S₈
    refine ⟨lw, ws, _, _, rfl, (hws.mono (hk₈.trans S₉.hp)).isList, by omega, .int _ _, .int _ _, _, _, S₉, fun D₁ s₁₀ S₁₀ d₁₀ => ?_⟩
    have e2 : (i : Int) + 2 = ((i + 2 : Nat) : Int) := by push_cast; rfl
    rw [e2, pickBoth, Nat.add_sub_cancel_left] at S₁₀
    refine ke_eq_ints (hvo.mono S₁₀.hp).isList (S₁₀.own (D₁, _) (List.mem_append_right _ (.head _))).1.isList hio ((hiw.drop i).take 2) (by have := Rm.hu; omega) ?_
    refine ⟨B₈, _, [(D₁, listP _)], ?_, hB₇.trans hB₈, S₁₀, d₄.trans ((show Side s₄ s₅ from d₅).trans (d₆.trans (g₇.side.trans (g₈.side.trans ((show Side s₈ s₉ from d₉).trans d₁₀)))))⟩
    show _ = _
    rw [List.range_succ, List.map_append, hys]
    rfl
  · rintro D C ys B' s₃ hys hB' S₃ d₃
    subst hys
    refine post_asgf 0 7 V rfl rfl S₃ fun s₄ S₄ d₄ => ?_
    obtain ⟨B₇, S₇, hB₇, hD₇⟩ := St.keep1 (ob := LW L d z t w r h (FrV (some (.ref lu)) (some (.ref D)) none none) (some (.ref ld)) (some (.ref lz)) (some (.ref lt)) (some (.ref lw)) (some (.ref rl)) (some (.ref hd))) S₄
    exact hQ s₄ B₇ D (hB'.trans hB₇) S₇ hD₇ (d₁.trans (d₃.trans d₄))

theorem law_if3 {rs : List (Int × Int)} {row td : List Int} {lw hd rl lt lz lu ld lf : Addr} {Q : Flow → Shared → Prop} (V : Ev env L lN (lC d z t w r h) lG) (Rm : Room A 14 200) (hrow : Ints B lw row) (hld : Ints B ld td)
    (hlf : Lst B lf ((List.range 3).map fun k => Value.bool (fitB rs row k))) (hfit : decide (td = row) = !((List.range 3).any fun k => fitB rs row k == false))
    (S : St mg mb B s.heap (LW L d z t w r h (FrV (some (.ref lu)) (some (.ref lf)) none none) (some (.ref ld)) (some (.ref lz)) (some (.ref lt)) (some (.ref lw)) (some (.ref rl)) (some (.ref hd))))
    (hQ : ∀ s' B', Sub B B' → St mg mb B' s'.heap (LW L d z t w r h (FrV (some (.ref lu)) none none none) (some (.ref ld)) (some (.ref lz)) (some (.ref lt)) (some (.ref lw)) (some (.ref rl)) (some (.ref hd))) →
      Side s s' → wpAny (model prog w') A (execs ((defAt 15).body.drop 15) env) Q E s') :
    wpAny (model prog w') A (execs ((defAt 15).body.drop 14) env) Q E s := by
  obtain ⟨vd, hvd, hid⟩ := hld.mono S.hp
  obtain ⟨vw, hvw, hiw⟩ := hrow.mono S.hp
  have hF := (hlf.mono S.hp).isList
  refine wpAny_execs_cons (wpAny_If (wpAny_isTrue_Compare1 (wpAny_Compare1 (ldc 1 0 S V rfl rfl (ldc 4 3 S V rfl rfl (ke_eq_ints hvd.isList hvw.isList hid hiw (by have := Rm.hu; omega) ?_))))))
  refine wpAny_Compare1 (Constant_bool (ldl 0 7 S V rfl rfl rfl (SeqAt.notIn_listAt (fun y => boolOf y == false) hF (fun y hy => ?_) (ne_bool (wpAny_truthy_bool ?_)))))
  · have hy' : y ∈ (List.range 3).map fun k => Value.bool (fitB rs row k) := by simpa using hy
    obtain ⟨k, _, rfl⟩ := List.mem_map.mp hy'
    exact SeqAt.EqAt.bool_bool _ _
  · have e : (((List.range 3).map fun k => Value.bool (fitB rs row k)).toArray.any fun y => boolOf y == false) = (List.range 3).any fun k => fitB rs row k == false := by
      rw [List.any_toArray, List.any_map]; rfl
    rw [e, hfit]
    simp only [bne_self_eq_false, Bool.false_eq_true, if_false]
    refine wpAny_execs_nil ?_
    have S₅ := S.wk 0 rfl (nsP.weak (lv' := FrV (some (.ref lu)) none none none) ⟨.inr rfl, .inr rfl, .inr rfl, .inr rfl, .inr rfl, .inr rfl, .inr rfl, .inl rfl, .inr rfl, .inr rfl, trivial⟩)
    exact hQ s B (Sub.refl B) S₅ (Side.refl s)
end
end Mine
end
/-! ## F34 -/
section
set_option maxRecDepth 100000
set_option maxHeartbeats 400000
open PySem PySem.Calls PySem.W PyProof.Rows
namespace Mine
/-- lists of lists of ints, compared -/
def dataL (p : List Int) : PyData := .list (p.map PyData.int)
theorem lay_lists : ∀ ps : List (List Int), PyData.canLayAll0 (ps.map dataL) = true
  | [] => rfl
  | p :: r => by
    have e : PyData.canLay0 (dataL p) = true := by simp [dataL, PyData.canLay0, ke_canLayAll0]
    simp [PyData.canLayAll0, e, lay_lists r]
theorem depth_lists : ∀ ps : List (List Int), PyData.depthAll (ps.map dataL) ≤ 1
  | [] => by simp [PyData.depthAll]
  | p :: r => by
    have e : PyData.depth (dataL p) = 1 := by simp [dataL, PyData.depth, ke_depthAll]
    have ih := depth_lists r
    simp only [List.map_cons, PyData.depthAll, e]
    omega
theorem shaped_lists (ps : List (List Int)) : SeqAt.shaped (.list (ps.map dataL)) = true := by
  have h1 := lay_lists ps
  have h2 := depth_lists ps
  simp only [SeqAt.shaped, PyData.canLay0, PyData.depth, Bool.and_eq_true]
  exact ⟨h1, decide_eq_true (by omega)⟩
theorem eqv_lists : ∀ ps qs : List (List Int), PyData.eqvAll (ps.map dataL) (qs.map dataL) = decide (ps = qs)
  | [], [] => by simp [PyData.eqvAll]
  | [], _ :: _ => by simp [PyData.eqvAll]
  | _ :: _, [] => by simp [PyData.eqvAll]
  | p :: r, q :: t => by
    have e : PyData.eqv (dataL p) (dataL q) = decide (p = q) := by
      simp only [dataL, PyData.eqv]; exact ked_eqvAll p q
    simp only [List.map_cons, PyData.eqvAll, e, eqv_lists r t]
    by_cases h : p = q <;> by_cases h' : r = t <;> simp [h, h']
theorem RowsR.tail {X : Rl} {v : Value} {vs : List Value} {p : List Int} {ps : List (List Int)} (h : RowsR X (v :: vs) (p :: ps)) : (∃ a, v = .ref a ∧ Ints X a p) ∧ RowsR X vs ps := by
  refine ⟨?_, by have := h.1; simpa using this, fun j q hq => ?_⟩
  · obtain ⟨a, h1, h2⟩ := h.2 0 p rfl
    exact ⟨a, Option.some.inj h1, h2⟩
  · obtain ⟨a, h1, h2⟩ := h.2 (j + 1) q (by simpa using hq)
    exact ⟨a, by simpa using h1, h2⟩
theorem reads_rows {h : Heap} : ∀ {ps : List (List Int)} {vs : List Value}, RowsR (Hp h) vs ps → ∃ as, ReadsAll h vs (ps.map dataL) as
  | [], [], _ => ⟨_, .nil⟩
  | [], v :: vs, hr => by have := hr.1; simp at this
  | p :: ps, [], hr => by have := hr.1; simp at this
  | p :: ps, v :: vs, hr => by
    obtain ⟨⟨a, rfl, ws, hl, hi⟩, ht⟩ := hr.tail
    obtain ⟨as, ha⟩ := reads_rows ht
    exact ⟨_, .cons (reads_newData hl.isList (ke_carried hi)) ha⟩
theorem reads_lists {h : Heap} {a : Addr} {ps : List (List Int)} (x : ListsAt (Hp h) a ps) : ∃ as, Reads h (.ref a) (.list (ps.map dataL)) as := by
  obtain ⟨vs, ⟨o, ho, hc, _, n, hd⟩, hr⟩ := x
  obtain ⟨as, ha⟩ := reads_rows hr
  exact ⟨_, .list ho hc hd (by simpa using ha)⟩
theorem rowsGet {X : Rl} {vs : List Value} {ps : List (List Int)} (h : RowsR X vs ps) {i : Nat} {v : Value} (hv : vs[i]? = some v) : ∃ a p, v = .ref a ∧ ps[i]? = some p ∧ Ints X a p := by
  have hlt := (List.getElem?_eq_some_iff.mp hv).1
  have hp : ps[i]? = some (ps[i]'(by have := h.1; omega)) := List.getElem?_eq_getElem (by have := h.1; omega)
  obtain ⟨a, h1, h2⟩ := h.2 i _ hp
  rw [hv] at h1
  exact ⟨a, _, Option.some.inj h1, hp, h2⟩
section
variable {prog : Program} {w' : World} {A : Around} {E : Value → Shared → Prop} {s : Shared} {mg mb : Str → Option Value} {B : Rl} {ob : Ob} {env : Env} {L : Addr}
theorem eqLists {a b : Addr} {ps qs : List (List Int)} {Q : Value → Shared → Prop} (ha : ListsAt (Hp s.heap) a ps) (hb : ListsAt (Hp s.heap) b qs) (hu : A.units + 64 < cLine) (h : Q (.bool (decide (ps = qs))) s) :
    wpAny (model prog w') A (compareOp .Eq (.ref a) (.ref b)) Q E s := by
  obtain ⟨as, h1⟩ := reads_lists ha
  obtain ⟨bs, h2⟩ := reads_lists hb
  refine eq_dataH h1 h2 (shaped_lists _) (shaped_lists _) hu ?_
  simp only [PyData.eqv]
  rw [eqv_lists]; exact h
theorem neLists {a b : Addr} {ps qs : List (List Int)} {Q : Value → Shared → Prop} (ha : ListsAt (Hp s.heap) a ps) (hb : ListsAt (Hp s.heap) b qs) (hu : A.units + 64 < cLine) (h : Q (.bool (!decide (ps = qs))) s) :
    wpAny (model prog w') A (compareOp .NotEq (.ref a) (.ref b)) Q E s := by
  obtain ⟨as, h1⟩ := reads_lists ha
  obtain ⟨bs, h2⟩ := reads_lists hb
  refine ne_dataH h1 h2 (shaped_lists _) (shaped_lists _) hu ?_
  simp only [PyData.eqv]
  rw [eqv_lists]; exact h
theorem onef {e : PySem.Expr} {pos : Pos} {Q : Value → Shared → Prop}
    (h : wpAny (model prog w') A (eval e env) (fun v s₁ => ∃ B ob, St mg mb B s₁.heap ob ∧ ∀ D s₂, St mg mb B s₂.heap (ob ++ [(D, listP [v])]) → Side s₁ s₂ → Q (.ref D) s₂) E s)
    (he₁ : backTo pos (starEach [e] env) = [(false, eval e env)] := by rfl) : wpAny (model prog w') A (eval (.List [e] pos) env) Q E s :=
  one_ (mg := mg) (mb := mb) (wpAny_mono h (fun _ s₁ ⟨B, ob, S, hQ⟩ => ⟨B, ob, S, fun D _ S' => hQ D _ S' (side_mk s₁ _ _)⟩) fun _ _ e => e) he₁
/-- zip over two lists that stay -/
theorem zip_ {l1 l2 : Addr} {xs ys : List Value} {Q : Value → Shared → Prop} (S : St mg mb B s.heap ob) (hl1 : Lst B l1 xs) (hl2 : Lst B l2 ys)
    (h : ∀ z TI TO i1 i2 s', ZipApart z TI TO i1 i2 l1 l2 → St mg mb B s'.heap ob → Side s s' → (∀ b ∈ [z, TO, i1, i2], (∀ o, ¬ B b o) ∧ b ∉ ob.map (·.1)) → (∀ b ∈ [z, TI, TO, i1, i2, l1, l2], b ∉ ob.map (·.1) ∧ b < s'.heap.objs.size) →
      (IsZip s'.heap z TI TO .none ∧ IsPair s'.heap TI (.ref i1) (.ref i2) ∧ (∃ a b, IsPair s'.heap TO a b) ∧ s'.heap.IsListIter i1 l1 0 ∧ s'.heap.IsListIter i2 l2 0 ∧ s'.heap.IsList l1 xs.toArray ∧ s'.heap.IsList l2 ys.toArray) → Q (.ref z) s') :
    wpAny (model prog w') A (call (.type "zip") [.ref l1, .ref l2]) Q E s := by
  have hL1 := (hl1.mono S.hp).isList
  have hL2 := (hl2.mono S.hp).isList
  obtain ⟨o1, ho1, hp1⟩ := id hl1
  obtain ⟨o2, ho2, hp2⟩ := id hl2
  have lt1 := Heap.lt_size (S.keep _ _ ho1)
  have lt2 := Heap.lt_size (S.keep _ _ ho2)
  have off : ∀ b, s.heap.objs.size ≤ b → (∀ o, ¬ B b o) ∧ b ∉ ob.map (·.1) := fun b hb => ⟨fun o e => absurd (Heap.lt_size (S.keep b o e)) (Nat.not_lt.mpr hb), fun hm => by
    obtain ⟨o, ho⟩ := S.there hm
    exact absurd (Heap.lt_size ho) (Nat.not_lt.mpr hb)⟩
  refine call_zip_2 hL1 hL2 fun h' hz hTI hTO hit1 hit2 hsz hk => ?_
  refine h _ _ _ _ _ { s with heap := h' } (zipApart_new lt1 lt2) (S.grow hk) (side_mk s _ _) ?_ ?_ ⟨hz, hTI, ⟨_, _, hTO⟩, hit1, hit2, hL1.at fun o e => hk l1 o e, hL2.at fun o e => hk l2 o e⟩
  · intro b hb
    simp at hb
    rcases hb with rfl | rfl | rfl | rfl
    · exact off _ (by omega)
    · exact off _ (by omega)
    · exact off _ (by omega)
    · exact off _ (by omega)
  · intro b hb
    simp at hb
    have hsz' : h'.objs.size = s.heap.objs.size + 5 := hsz
    rcases hb with rfl | rfl | rfl | rfl | rfl | rfl | rfl
    · exact ⟨(off _ (by omega)).2, by show _ < h'.objs.size; omega⟩
    · exact ⟨(off _ (by omega)).2, by show _ < h'.objs.size; omega⟩
    · exact ⟨(off _ (by omega)).2, by show _ < h'.objs.size; omega⟩
    · exact ⟨(off _ (by omega)).2, by show _ < h'.objs.size; omega⟩
    · exact ⟨(off _ (by omega)).2, by show _ < h'.objs.size; omega⟩
    · exact ⟨fun hm => (S.subMx _ _ ho1).2 hm, Nat.lt_of_lt_of_le lt1 (by show _ ≤ h'.objs.size; omega)⟩
    · exact ⟨fun hm => (S.subMx _ _ ho2).2 hm, Nat.lt_of_lt_of_le lt2 (by show _ ≤ h'.objs.size; omega)⟩
end
end Mine
end
/-! ## F35 -/
section
set_option maxRecDepth 100000
set_option maxHeartbeats 400000
open PySem PySem.Calls PySem.W PyProof.Rows
namespace Mine
section
variable {prog : Program} {w' : World} {A : Around} {E : Value → Shared → Prop} {s : Shared} {mg mb : Str → Option Value} {B : Rl} {env : Env} {L d z t w r h : Addr}
theorem law_cut {rs : List (Int × Int)} {us td : List Int} {lw hd rl lt lz lu ld : Addr} {Q : Flow → Shared → Prop} (V : Ev env L lN (lC d z t w r h) lG) (Rm : Room A 14 200) (hst : Strat rs) (h3 : rs.length = 3) (hlu : Ints B lu us) (hld : Ints B ld td) (hr : Pairs B rl rs)
    (hsym : ∀ n ∈ td, Sym 3 n) (hne : td ≠ []) (hlen : td.length ≤ 100) (hus : us = (td.map (expand rs 3)).flatten) (hpn : ∀ n ∈ td, expand rs 3 n ≠ [])
    (S : St mg mb B s.heap (LW L d z t w r h (FrV (some (.ref lu)) none none none) (some (.ref ld)) (some (.ref lz)) (some (.ref lt)) (some (.ref lw)) (some (.ref rl)) (some (.ref hd))))
    (hQ : ∀ s' B' lp, Sub B B' → St mg mb B' s'.heap (LW L d z t w r h (FrV none none (some (.ref lp)) none) (some (.ref ld)) (some (.ref lz)) (some (.ref lt)) (some (.ref lw)) (some (.ref rl)) (some (.ref hd))) →
      ListsAt B' lp (td.map (expand rs 3)) → Side s s' → wpAny (model prog w') A (execs ((defAt 15).body.drop 16) env) Q E s') :
    wpAny (model prog w') A (execs ((defAt 15).body.drop 15) env) Q E s := by
  obtain ⟨vd, hvd, hid⟩ := hld
  have hvl : vd.length = td.length := hid.length
  have hsub : ∀ p ∈ [(("rules" : Str), r)], p ∈ lC d z t w r h := fun p hp => by rw [List.mem_singleton.mp hp]; simp
  refine wpAny_execs_cons (wpAny_Assign_Name (call2 14 (by decide) S V rfl (by decide) fun ac hac => ldl 0 6 S V rfl rfl rfl ?_))
  refine comp_eval (nm := ["number"]) (gl := ["len", "_law_leaves"]) (cells' := [("rules", r)]) V hsub (show compOk _ ["number"] ["rules"] ["len", "_law_leaves"] = true by decide +kernel) (ldc 1 0 S V rfl rfl ?_)
  refine compL_go (nm := ["number"]) (gl := ["len", "_law_leaves"]) (cells' := [("rules", r)]) V Rm.hh hsub (show compOk _ ["number"] ["rules"] ["len", "_law_leaves"] = true by decide +kernel) S hvd (by omega)
    (fun i ys _ => IntsAre ys ((td.take i).map fun n => ((expand rs 3 n).length : Int))) .nil (fun _ _ _ _ _ h => h) ?_ ?_
  · rintro i v ys B' s₃ E₃ D C cenv it Vc hi hx hys hB' S₃
    obtain ⟨n, tn, hn, rfl⟩ := intsAt hid hx
    change St mg mb B' s₃.heap (LW L d z t w r h (FrV (some (.ref lu)) none none none) (some (.ref ld)) (some (.ref lz)) (some (.ref lt)) (some (.ref lw)) (some (.ref rl)) (some (.ref hd)) ++ [(D, listP ys), (C, nsP ["number"] [none])] ++ keepers [it] s₃.heap) at S₃
    refine assign_Name (stlf 8 0 S₃ Vc rfl rfl fun s₄ S₄ d₄ => ?_)
    change St mg mb B' s₄.heap (LW L d z t w r h (FrV (some (.ref lu)) none none none) (some (.ref ld)) (some (.ref lz)) (some (.ref lt)) (some (.ref lw)) (some (.ref rl)) (some (.ref hd)) ++ [(D, listP ys), (C, nsP ["number"] [some (.int n tn)])] ++ keepers [it] s₃.heap) at S₄
    refine bcall1 (id := "len") S₄ Vc (by decide) (by decide) (by rfl) (call2 11 (by decide) S₄ Vc rfl (by decide) fun a ha => onef (mg := mg) (mb := mb) (ldl 8 0 S₄ Vc rfl rfl rfl ⟨_, _, S₄, fun D₁ s₅ S₅ d₅ => ?_⟩))
    obtain ⟨B₅, S₆, hB₅, hD₁⟩ := S₅.keep1
    have hD₁' : Ints B₅ D₁ [n] := ⟨_, hD₁, intsOne _ _⟩
    refine ldc 5 0 S₆ Vc rfl rfl ⟨S₆.w, ?_⟩
    refine leaves_ok hst h3 S₆.w ha (hD₁'.mono S₆.hp) (hr.mono ((hB'.trans hB₅).trans S₆.hp)) (by simp) (by simp) (fun m hm => by rw [List.mem_singleton.mp hm]; exact hsym n (List.mem_of_getElem? hn)) (Rm.le (by omega) (by omega)) fun s₇ lv g₇ hlv => ?_
    obtain ⟨oD, hoD, _⟩ := id hD₁
    obtain ⟨B₇, S₇, hB₇, hn₇⟩ := S₆.after g₇ (fun a ha => by rw [List.mem_singleton.mp ha]; exact ⟨oD, hoD⟩)
    obtain ⟨vv, hvv, hiv⟩ := hlv.mono (hn₇.trans S₇.hp)
    have efl : [n].flatMap (expand rs 3) = expand rs 3 n := by simp
    rw [efl] at hiv
    have hvvl : vv.length = (expand rs 3 n).length := hiv.length
    refine lenLf hvv.isList (by have := expand_length rs 3 n; omega) fun t₈ s₈ e₈ d₈ => ?_
    refine ⟨B₇, _, [], ?_, hB₅.trans hB₇, by rw [List.append_nil, e₈]; exact S₇, d₄.trans (d₅.trans (g₇.side.trans d₈))⟩
    have et : ((td.take (i + 1)).map fun n => ((expand rs 3 n).length : Int)) = ((td.take i).map fun n => ((expand rs 3 n).length : Int)) ++ [((expand rs 3 n).length : Int)] := by rw [List.take_add_one, hn]; simp
    rw [et, hvvl]
    exact intsApp hys (intsOne _ _)
  · rintro D C ys B' s₃ hys hB' S₃ d₃
    refine post_evalf S₃ fun s₄ S₄ d₄ => ?_
    obtain ⟨B₅, S₅, hB₅, hD⟩ := S₄.keep1
    rw [hvl, List.take_length] at hys
    have hk := hB'.trans hB₅
    refine ⟨S₅.w, cut_ok (parts := td.map (expand rs 3)) S₅.w hac (hlu.mono (hk.trans S₅.hp)) (Ints.mono ⟨ys, hD, hys⟩ S₅.hp) hus (by rw [List.map_map]; rfl) (by simpa using hne) (fun p hp => ?_) (by simpa using hlen) (Rm.le (by omega) (by omega)) fun s₆ lp g₆ hlp => ?_⟩
    · obtain ⟨n, hn, rfl⟩ := List.mem_map.mp hp
      have := expand_length rs 3 n
      exact ⟨hpn n hn, by omega⟩
    · obtain ⟨B₆, S₆, hB₆, hn₆⟩ := S₅.after g₆ (as := []) (fun a ha => nomatch ha)
      refine stlf 0 8 S₆ V rfl rfl fun s₇ S₇ d₇ => ?_
      have S₈ := S₇.wk 0 rfl (nsP.weak (lv' := FrV none none (some (.ref lp)) none) ⟨.inr rfl, .inr rfl, .inr rfl, .inr rfl, .inr rfl, .inr rfl, .inl rfl, .inr rfl, .inr rfl, .inr rfl, trivial⟩)
      exact hQ s₇ B₆ lp (hk.trans hB₆) S₈ (hlp.mono hn₆) (d₃.trans (d₄.trans (g₆.side.trans d₇)))

theorem law_if4 {rs : List (Int × Int)} {parts : List (List Int)} {td : List Int} {lw hd rl lt lz ld lp : Addr} {Q : Flow → Shared → Prop} (V : Ev env L lN (lC d z t w r h) lG) (Rm : Room A 14 200) (hlp : ListsAt B lp parts) (hld : Ints B ld td) (hr : Pairs B rl rs)
    (hlen : td.length ≤ 100) (hpl : parts.length ≤ 100) (hp16 : ∀ p ∈ parts, p.length ≤ 16) (heq : parts.map (written rs) = td.map fun n => [n])
    (S : St mg mb B s.heap (LW L d z t w r h (FrV none none (some (.ref lp)) none) (some (.ref ld)) (some (.ref lz)) (some (.ref lt)) (some (.ref lw)) (some (.ref rl)) (some (.ref hd))))
    (hQ : ∀ s' B', Sub B B' → St mg mb B' s'.heap (LW L d z t w r h (FrV none none (some (.ref lp)) none) (some (.ref ld)) (some (.ref lz)) (some (.ref lt)) (some (.ref lw)) (some (.ref rl)) (some (.ref hd))) →
      Side s s' → wpAny (model prog w') A (execs ((defAt 15).body.drop 17) env) Q E s') :
    wpAny (model prog w') A (execs ((defAt 15).body.drop 16) env) Q E s := by
  obtain ⟨vp, hvp, hrp⟩ := hlp
  obtain ⟨vd, hvd, hid⟩ := hld
  have hvl : vd.length = td.length := hid.length
  have hsub : ∀ p ∈ [(("rules" : Str), r)], p ∈ lC d z t w r h := fun p hp => by rw [List.mem_singleton.mp hp]; simp
  refine wpAny_execs_cons (wpAny_If (wpAny_isTrue_Compare1 ?_))
  refine comp_eval (nm := ["piece"]) (gl := ["_law_written"]) (cells' := [("rules", r)]) V hsub (show compOk _ ["piece"] ["rules"] ["_law_written"] = true by decide +kernel) (ldl 0 8 S V rfl rfl rfl ?_)
  refine compL_go (nm := ["piece"]) (gl := ["_law_written"]) (cells' := [("rules", r)]) V Rm.hh hsub (show compOk _ ["piece"] ["rules"] ["_law_written"] = true by decide +kernel) S hvp (by have := hrp.1; omega)
    (fun i ys X => RowsR X ys ((parts.take i).map (written rs))) (RowsR.nil _) (fun _ _ _ _ k h => h.mono k) ?_ ?_
  · rintro i v ys B' s₃ E₃ D C cenv it Vc hi hx hys hB' S₃
    obtain ⟨a, p, rfl, hp, hap⟩ := rowsGet hrp hx
    change St mg mb B' s₃.heap (LW L d z t w r h (FrV none none (some (.ref lp)) none) (some (.ref ld)) (some (.ref lz)) (some (.ref lt)) (some (.ref lw)) (some (.ref rl)) (some (.ref hd)) ++ [(D, listP ys), (C, nsP ["piece"] [none])] ++ keepers [it] s₃.heap) at S₃
    refine assign_Name (stlf 8 0 S₃ Vc rfl rfl fun s₄ S₄ d₄ => ?_)
    change St mg mb B' s₄.heap (LW L d z t w r h (FrV none none (some (.ref lp)) none) (some (.ref ld)) (some (.ref lz)) (some (.ref lt)) (some (.ref lw)) (some (.ref rl)) (some (.ref hd)) ++ [(D, listP ys), (C, nsP ["piece"] [some (.ref a)])] ++ keepers [it] s₃.heap) at S₄
    refine call2 12 (by decide) S₄ Vc rfl (by decide) fun a₁ ha₁ => ldl 8 0 S₄ Vc rfl rfl rfl (ldc 5 0 S₄ Vc rfl rfl ⟨S₄.w, ?_⟩)
    refine written_ok S₄.w ha₁ (hap.mono (hB'.trans S₄.hp)) (hr.mono (hB'.trans S₄.hp)) (by have := hp16 p (List.mem_of_getElem? hp); omega) (Rm.le (by omega) (by omega)) fun s₅ lo g₅ hlo => ?_
    obtain ⟨va, ⟨oa, hoa, _⟩, _⟩ := id hap
    obtain ⟨B₅, S₅, hB₅, hn₅⟩ := S₄.after g₅ (fun b hb => by rw [List.mem_singleton.mp hb]; exact ⟨oa, hB' _ _ hoa⟩)
    refine ⟨B₅, _, [], ?_, hB₅, by rw [List.append_nil]; exact S₅, d₄.trans g₅.side⟩
    have et : (parts.take (i + 1)).map (written rs) = (parts.take i).map (written rs) ++ [written rs p] := by rw [List.take_add_one, hp]; simp
    rw [et]
    exact (hys.mono hB₅).snoc (hlo.mono hn₅)
  · rintro D C ys B' s₃ hys hB' S₃ d₃
    refine post_evalf S₃ fun s₄ S₄ d₄ => ?_
    obtain ⟨B₅, S₅, hB₅, hD⟩ := S₄.keep1
    have hk := hB'.trans hB₅
    have hall : parts.take vp.length = parts := by rw [hrp.1, List.take_length]
    rw [hall] at hys
    have hL1 : ListsAt B₅ D (parts.map (written rs)) := ⟨ys, hD, hys.mono hB₅⟩
    refine comp_eval (nm := ["number"]) (gl := []) (cells' := []) V (fun p hp => nomatch hp) (show compOk _ ["number"] [] [] = true by decide +kernel) (ldc 1 0 S₅ V rfl rfl ?_)
    refine compL_go (nm := ["number"]) (gl := []) (cells' := []) V Rm.hh (fun p hp => nomatch hp) (show compOk _ ["number"] [] [] = true by decide +kernel) S₅ (hvd.mono hk) (by omega)
      (fun i ys X => RowsR X ys ((td.take i).map fun n => [n])) (RowsR.nil _) (fun _ _ _ _ k h => h.mono k) ?_ ?_
    · rintro i v ys B' s₆ E₃ D C cenv it Vc hi hx hys hB' S₆
      obtain ⟨n, tn, hn, rfl⟩ := intsAt hid hx
      change St mg mb B' s₆.heap (LW L d z t w r h (FrV none none (some (.ref lp)) none) (some (.ref ld)) (some (.ref lz)) (some (.ref lt)) (some (.ref lw)) (some (.ref rl)) (some (.ref hd)) ++ [(D, listP ys), (C, nsP ["number"] [none])] ++ keepers [it] s₆.heap) at S₆
      refine assign_Name (stlf 8 0 S₆ Vc rfl rfl fun s₇ S₇ d₇ => ?_)
      change St mg mb B' s₇.heap (LW L d z t w r h (FrV none none (some (.ref lp)) none) (some (.ref ld)) (some (.ref lz)) (some (.ref lt)) (some (.ref lw)) (some (.ref rl)) (some (.ref hd)) ++ [(D, listP ys), (C, nsP ["number"] [some (.int n tn)])] ++ keepers [it] s₆.heap) at S₇
      refine onef (mg := mg) (mb := mb) (ldl 8 0 S₇ Vc rfl rfl rfl ⟨_, _, S₇, fun D₁ s₈ S₈ d₈ => ?_⟩)
      obtain ⟨B₈, S₉, hB₈, hD₁⟩ := S₈.keep1
      refine ⟨B₈, _, [], ?_, hB₈, by rw [List.append_nil]; exact S₉, d₇.trans d₈⟩
      have et : ((td.take (i + 1)).map fun n => [n]) = ((td.take i).map fun n => [n]) ++ [[n]] := by rw [List.take_add_one, hn]; simp
      rw [et]
      exact (hys.mono hB₈).snoc ⟨_, hD₁, intsOne _ _⟩
    · rintro D' C' zs B₆ s₆ hzs hB₆ S₆ d₆
      refine post_evalf S₆ fun s₇ S₇ d₇ => ?_
      obtain ⟨B₈, S₈, hB₈, hD'⟩ := S₇.keep1
      rw [hvl, List.take_length] at hzs
      refine neLists (hL1.mono ((hB₆.trans hB₈).trans S₈.hp)) (ListsAt.mono ⟨zs, hD', hzs.mono hB₈⟩ S₈.hp) (by have := Rm.hu; omega) (wpAny_truthy_bool ?_)
      rw [decide_eq_true heq]
      simp only [Bool.not_true, Bool.false_eq_true, if_false]
      refine wpAny_execs_nil ?_
      exact hQ s₇ B₈ ((hk.trans hB₆).trans hB₈) S₈ (d₃.trans (d₄.trans (d₆.trans d₇)))
end
end Mine
end
/-! ## F36 -/
section
set_option maxRecDepth 100000
set_option maxHeartbeats 400000
open PySem PySem.Calls PySem.W PyProof.Rows
namespace Mine
section
variable {prog : Program} {w' : World} {A : Around} {E : Value → Shared → Prop} {s : Shared} {mg mb : Str → Option Value} {B : Rl} {env : Env} {L d z t w r h : Addr}
theorem law_pairs {rs : List (Int × Int)} {parts : List (List Int)} {lw hd rl lt lz ld lp : Addr} {Q : Flow → Shared → Prop} (V : Ev env L lN (lC d z t w r h) lG) (Rm : Room A 14 200) (hlp : ListsAt B lp parts) (hr : Pairs B rl rs)
    (hpl : parts.length ≤ 100) (hne : parts ≠ []) (hp16 : ∀ p ∈ parts, p.length ≤ 16)
    (S : St mg mb B s.heap (LW L d z t w r h (FrV none none (some (.ref lp)) none) (some (.ref ld)) (some (.ref lz)) (some (.ref lt)) (some (.ref lw)) (some (.ref rl)) (some (.ref hd))))
    (hQ : ∀ s' B' lq, Sub B B' → St mg mb B' s'.heap (LW L d z t w r h (FrV none none none (some (.ref lq))) (some (.ref ld)) (some (.ref lz)) (some (.ref lt)) (some (.ref lw)) (some (.ref rl)) (some (.ref hd))) →
      ListsAt B' lq ((List.range (parts.length - 1)).map fun k => written rs (pairL parts k)) → Side s s' → wpAny (model prog w') A (execs ((defAt 15).body.drop 18) env) Q E s') :
    wpAny (model prog w') A (execs ((defAt 15).body.drop 17) env) Q E s := by
  obtain ⟨vp, hvp, hrp⟩ := hlp
  have hvl := hrp.1
  have hpos := List.length_pos_iff.mpr hne
  have hsub : ∀ p ∈ [(("rules" : Str), r)], p ∈ lC d z t w r h := fun p hp => by rw [List.mem_singleton.mp hp]; simp
  refine wpAny_execs_cons (comp_asg (nm := ["one", "other"]) (gl := ["_law_written"]) 0 9 V rfl (cells' := [("rules", r)]) hsub (show compOk _ ["one", "other"] ["rules"] ["_law_written"] = true by decide +kernel) ?_ rfl (by decide +kernel))
  refine tcall2 (id := "zip") S V (by decide) (by decide) (by rfl) (ldl 0 8 S V rfl rfl rfl (slicef (mg := mg) (mb := mb) (ldl 0 8 S V rfl rfl rfl (wpAny_evalPart_some (cintf fun t₁ s₁ e₁ d₁ => wpAny_pure ?_)))))
  have S₁ : St mg mb B s₁.heap _ := e₁.symm ▸ S
  refine ⟨lp, vp, _, _, rfl, (hvp.mono S₁.hp).isList, by omega, .int _ _, .none, _, _, S₁, fun D₂ s₂ S₂ d₂ => ?_⟩
  rw [oneN, pickFrom] at S₂
  obtain ⟨B₃, S₃, hB₃, hD₂⟩ := S₂.keep1
  refine zip_ S₃ (hvp.mono hB₃) hD₂ fun zz TI TO i1 i2 s₄ Dz S₄ d₄ hwr hfp hst => ?_
  refine wpAny_pyIter_zip hst.1 ?_
  have hmin : min vp.toArray.size (vp.drop 1).toArray.size = parts.length - 1 := by simp [hvl]
  have Wz := WalksT.zip2 (prog := prog) (w := w') Rm.hh zz TI TO i1 i2 lp D₂ Dz vp.toArray (vp.drop 1).toArray
  refine comp_any (nm := ["one", "other"]) (gl := ["_law_written"]) (cells' := [("rules", r)]) V hsub (show compOk _ ["one", "other"] ["rules"] ["_law_written"] = true by decide +kernel)
    (Wk.ofT Wz ?_ ?_ _ _ _) (by rw [hmin]; omega) S₄ hwr hfp hst (fun i ys X => RowsR X ys ((List.range i).map fun k => written rs (pairL parts k))) (RowsR.nil _) (fun _ _ _ _ k h => h.mono k) ?_ ?_
  · have h1 := Dz.TOz; have h2 := Dz.i1z; have h3 := Dz.i2z; have h4 := Dz.TOi1; have h5 := Dz.TOi2; have h6 := Dz.i12
    simp [h1.symm, h2.symm, h3.symm, h4, h5, h6]
  · rintro i hp ⟨g1, g2, ⟨a, b, g3⟩, ⟨o4, g4, _⟩, ⟨o5, g5, _⟩, _⟩ b hb
    simp at hb
    rcases hb with rfl | rfl | rfl | rfl
    · exact ⟨_, g1⟩
    · exact ⟨_, g3⟩
    · exact ⟨_, g4⟩
    · exact ⟨_, g5⟩
  · rintro i v ys B' s₅ E₅ D C cenv Vc hi hys hB' S₅ ⟨T, vals, rfl, ⟨x, y, hx, hy, rfl⟩, hT⟩
    obtain ⟨a, p, rfl, hp, hap⟩ := rowsGet hrp (show vp[i]? = some x by simpa using hx)
    obtain ⟨b, q, rfl, hq, hbq⟩ := rowsGet hrp (show vp[i + 1]? = some y by simpa using hy)
    have hk : Sub B B' := hB₃.trans hB'
    change St mg mb B' s₅.heap (LW L d z t w r h (FrV none none (some (.ref lp)) none) (some (.ref ld)) (some (.ref lz)) (some (.ref lt)) (some (.ref lw)) (some (.ref rl)) (some (.ref hd)) ++ [(D, listP ys), (C, nsP ["one", "other"] [none, none])] ++ keepers [zz, TO, i1, i2] s₅.heap) at S₅
    refine asg2 8 0 1 S₅ Vc Rm.hh (hT.mono S₅.hp).isTup rfl rfl rfl fun h₆ tk₆ S₆ => ?_
    change St mg mb B' h₆ (LW L d z t w r h (FrV none none (some (.ref lp)) none) (some (.ref ld)) (some (.ref lz)) (some (.ref lt)) (some (.ref lw)) (some (.ref rl)) (some (.ref hd)) ++ [(D, listP ys), (C, nsP ["one", "other"] [some (.ref a), some (.ref b)])] ++ keepers [zz, TO, i1, i2] s₅.heap) at S₆
    obtain ⟨va, hva, hia⟩ := hap.mono (hk.trans S₆.hp)
    obtain ⟨vb, hvb, hib⟩ := hbq.mono (hk.trans S₆.hp)
    have lp16 := hp16 p (List.mem_of_getElem? hp)
    have lq16 := hp16 q (List.mem_of_getElem? hq)
    have lva := hia.length
    have lvb := hib.length
    refine call2 12 (by decide) S₆ Vc rfl (by decide) fun a₁ ha₁ => wpAny_BinOp (ldl 8 0 S₆ Vc rfl rfl rfl (ldl 8 1 S₆ Vc rfl rfl rfl (addLf S₆ hva.isList hvb.isList (by omega) fun D₁ s₇ S₇ d₇ => ?_)))
    obtain ⟨B₈, S₈, hB₈, hD₁⟩ := S₇.keep1
    have hsum : Ints B₈ D₁ (p ++ q) := ⟨_, hD₁, intsApp hia hib⟩
    refine ldc 5 0 S₈ Vc rfl rfl ⟨S₈.w, ?_⟩
    refine written_ok S₈.w ha₁ (hsum.mono S₈.hp) (hr.mono ((hk.trans hB₈).trans S₈.hp)) (by rw [List.length_append]; omega) (Rm.le (by omega) (by omega)) fun s₉ lo g₉ hlo => ?_
    obtain ⟨oD, hoD, _⟩ := id hD₁
    obtain ⟨B₉, S₉, hB₉, hn₉⟩ := S₈.after g₉ (fun b hb => by rw [List.mem_singleton.mp hb]; exact ⟨oD, hoD⟩)
    refine ⟨B₉, _, [], ?_, hB₈.trans hB₉, by rw [List.append_nil]; exact S₉, (show Side s₅ s₇ from d₇).trans g₉.side⟩
    have ep : pairL parts i = p ++ q := by unfold pairL; rw [hp, hq]; rfl
    have et : ((List.range (i + 1)).map fun k => written rs (pairL parts k)) = ((List.range i).map fun k => written rs (pairL parts k)) ++ [written rs (p ++ q)] := by rw [List.range_succ, List.map_append, ← ep]; rfl
    rw [et]
    exact (hys.mono (hB₈.trans hB₉)).snoc (hlo.mono hn₉)
  · rintro D C ys B' s₅ hys hB' S₅ d₅
    rw [hmin] at hys
    refine post_asgf 0 9 V rfl rfl S₅ fun s₆ S₆ d₆ => ?_
    have S₇ := S₆.wk 0 rfl (nsP.weak (lv' := FrV none none none (some (.ref D))) ⟨.inr rfl, .inr rfl, .inr rfl, .inr rfl, .inr rfl, .inr rfl, .inr rfl, .inr rfl, .inl rfl, .inr rfl, trivial⟩)
    obtain ⟨B₈, S₈, hB₈, hD⟩ := St.keep1 (ob := LW L d z t w r h (FrV none none none (some (.ref D))) (some (.ref ld)) (some (.ref lz)) (some (.ref lt)) (some (.ref lw)) (some (.ref rl)) (some (.ref hd))) S₇
    exact hQ s₆ B₈ D ((hB₃.trans hB').trans hB₈) S₈ ⟨ys, hD, hys.mono hB₈⟩ (d₁.trans (d₂.trans (d₄.trans (d₅.trans d₆))))

theorem law_ret {qs : List (List Int)} {td : List Int} {lw hd rl lt lz ld lq : Addr} {Q : Flow → Shared → Prop} (V : Ev env L lN (lC d z t w r h) lG) (Rm : Room A 14 200) (hlq : ListsAt B lq qs) (hld : Ints B ld td)
    (hlen : td.length ≤ 100) (hne : td ≠ []) (heq : qs = (List.range (td.length - 1)).map fun k => (td.drop k).take 2)
    (S : St mg mb B s.heap (LW L d z t w r h (FrV none none none (some (.ref lq))) (some (.ref ld)) (some (.ref lz)) (some (.ref lt)) (some (.ref lw)) (some (.ref rl)) (some (.ref hd))))
    (hQ : ∀ s' B', Sub B B' → Sub B' (Hp s'.heap) → Side s s' → Q (.ret (.bool true)) s') :
    wpAny (model prog w') A (execs ((defAt 15).body.drop 18) env) Q E s := by
  obtain ⟨vd, hvd, hid⟩ := hld
  have hvl : vd.length = td.length := hid.length
  have hpos := List.length_pos_iff.mpr hne
  have hsub : ∀ p ∈ [(("told" : Str), d)], p ∈ lC d z t w r h := fun p hp => by rw [List.mem_singleton.mp hp]; simp
  refine wpAny_execs_cons (wpAny_Return_some (wpAny_Compare1 (ldl 0 9 S V rfl rfl rfl ?_)))
  refine comp_eval (nm := ["k"]) (gl := []) (cells' := [("told", d)]) V hsub (show compOk _ ["k"] ["told"] [] = true by decide +kernel) ?_
  refine tcall1 (id := "range") S V (by decide) (by decide) (by rfl) (wpAny_BinOp (bcall1 (id := "len") S V (by decide) (by decide) (by rfl) (ldc 1 0 S V rfl rfl (lenLf (hvd.mono S.hp).isList (by omega) fun t₁ s₁ e₁ d₁ => wpAny_Constant_int (subf fun t₂ s₂ e₂ d₂ => ?_)))))
  have S₂ : St mg mb B s₂.heap _ := (show s₂.heap = s.heap from Eq.trans e₂ e₁).symm ▸ S
  have en : ((vd.length : Nat) : Int) - 1 = ((td.length - 1 : Nat) : Int) := by omega
  rw [en]
  refine compR_go (nm := ["k"]) (gl := []) (cells' := [("told", d)]) V Rm.hh hsub (show compOk _ ["k"] ["told"] [] = true by decide +kernel) S₂ (by omega)
    (fun i ys X => RowsR X ys ((List.range i).map fun k => (td.drop k).take 2)) (RowsR.nil _) (fun _ _ _ _ k h => h.mono k) ?_ ?_
  · rintro i ti ys B' s₃ E₃ D C cenv it Vc hi hys hB' S₃
    change St mg mb B' s₃.heap (LW L d z t w r h (FrV none none none (some (.ref lq))) (some (.ref ld)) (some (.ref lz)) (some (.ref lt)) (some (.ref lw)) (some (.ref rl)) (some (.ref hd)) ++ [(D, listP ys), (C, nsP ["k"] [none])] ++ keepers [it] s₃.heap) at S₃
    refine assign_Name (stlf 8 0 S₃ Vc rfl rfl fun s₄ S₄ d₄ => ?_)
    change St mg mb B' s₄.heap (LW L d z t w r h (FrV none none none (some (.ref lq))) (some (.ref ld)) (some (.ref lz)) (some (.ref lt)) (some (.ref lw)) (some (.ref rl)) (some (.ref hd)) ++ [(D, listP ys), (C, nsP ["k"] [some (.int i ti)])] ++ keepers [it] s₃.heap) at S₄
    refine slicef (mg := mg) (mb := mb) (ldc 1 0 S₄ Vc rfl rfl (wpAny_evalPart_some (ldl 8 0 S₄ Vc rfl rfl rfl (wpAny_evalPart_some (wpAny_BinOp (ldl 8 0 S₄ Vc rfl rfl rfl (wpAny_Constant_int (addf fun t₅ s₅ e₅ d₅ => ?_))))))))
    have S₅ : St mg mb B' s₅.heap _ := (show s₅.heap = s₄.heap from e₅).symm ▸ S₄
    refine ⟨ld, vd, _, _, rfl, (hvd.mono (hB'.trans S₅.hp)).isList, by omega, .int _ _, .int _ _, _, _, S₅, fun D₁ s₆ S₆ d₆ => ?_⟩
    have e2 : (i : Int) + 2 = ((i + 2 : Nat) : Int) := by push_cast; rfl
    rw [e2, pickBoth, Nat.add_sub_cancel_left] at S₆
    obtain ⟨B₇, S₇, hB₇, hD₁⟩ := S₆.keep1
    refine ⟨B₇, _, [], ?_, hB₇, by rw [List.append_nil]; exact S₇, d₄.trans ((show Side s₄ s₅ from d₅).trans d₆)⟩
    rw [List.range_succ, List.map_append]
    exact (hys.mono hB₇).snoc ⟨_, hD₁, (hid.drop i).take 2⟩
  · rintro D C ys B' s₃ hys hB' S₃ d₃
    refine post_evalf S₃ fun s₄ S₄ d₄ => ?_
    obtain ⟨B₅, S₅, hB₅, hD⟩ := S₄.keep1
    refine eqLists (hlq.mono ((hB'.trans hB₅).trans S₅.hp)) (ListsAt.mono ⟨ys, hD, hys.mono hB₅⟩ S₅.hp) (by have := Rm.hu; omega) ?_
    rw [decide_eq_true heq]
    exact hQ s₄ B₅ (hB'.trans hB₅) S₅.hp ((d₁.trans (show Side s₁ s₂ from d₂)).trans (d₃.trans d₄))
end
end Mine
end
/-! ## F37 -/
section
set_option maxRecDepth 100000
set_option maxHeartbeats 4000000
open PySem PySem.Calls PySem.W PyProof.Rows
namespace Mine
theorem lv_ne {p0 p1 p2 : Int × Int} (O : Ok3 p0 p1 p2) : ∀ {row : List Int}, row ≠ [] → (∀ n ∈ row, Sym 3 n) → row.flatMap (expand [p0, p1, p2] 3) ≠ []
  | [], h, _ => absurd rfl h
  | n :: r, _, hs => fun e => by
    rw [List.flatMap_cons] at e
    exact expand_ne O (hs n (.head _)) (List.append_eq_nil_iff.mp e).1
theorem three {rs : List (Int × Int)} (h : rs.length = 3) : ∃ p0 p1 p2, rs = [p0, p1, p2] := by
  match rs, h with
  | [p0, p1, p2], _ => exact ⟨p0, p1, p2, rfl⟩
section
variable {prog : Program} {w' : World} {A : Around} {s : Shared} {mg mb : Str → Option Value}
theorem law_ok {sc : List Int} {ls a : Addr} {R : Result → Shared → Prop} (W : Wd mg mb s.heap) (ha : mg (defAt 15).name = some (.ref a)) {vs : List Value} (hvs : s.heap.IsList ls vs.toArray) (his : IntsAre vs sc) (hlen : sc.length ≤ 1000) (Rm : Room A 16 210)
    (h : ∀ s', Goes s s' → R (.ok (.ret (.bool true))) s') : codeAny (model prog w') A (.call (.ref a) ⟨[.ref ls], []⟩) R s := by
  refine enterC (d := 14) (u := 200) 15 (by decide) ["script"] lN lG (lv := [some (.ref ls), none, none, none, none, none, none, none, none, none]) W ha (Rm.le (by omega) (by omega)) (by decide +kernel) (fun _ _ _ => rfl) rfl (fun i x v hi hv => ?_) ?_
  · rcases i with _ | i
    · simp at hi hv; subst hi; subst hv; rfl
    · rcases i with _ | _ | _ | _ | _ | _ | _ | _ | _ | i <;> simp at hv
  intro L h₁ tk env A' E V Rm' S
  change Ev env L lN (lC (L + 6) (L + 5) (L + 4) (L + 3) (L + 2) (L + 1)) lG at V
  change St mg mb _ h₁ (LW L (L + 6) (L + 5) (L + 4) (L + 3) (L + 2) (L + 1) [some (.ref ls), none, none, none, none, none, none, none, none, none] none none none none none none) at S
  generalize L + 6 = d at V S
  generalize L + 5 = z at V S
  generalize L + 4 = t at V S
  generalize L + 3 = w at V S
  generalize L + 2 = r at V S
  generalize L + 1 = hc at V S
  have hh := Rm'.hh
  have hrow4 := rowN_length sc
  have hrsym := rowN_sym (numsOf sc)
  have hst := rulesN_strat (numsOf sc) 3
  have h3 := rulesN_length (numsOf sc) 3
  have hnl := numsOf_length sc
  refine law_numbers (s := { s with heap := h₁, toks := tk }) V S (fun h hk => let ⟨o, ho, r⟩ := hvs; ⟨o, hk _ _ ho, r⟩) his hlen fun s₁ B₁ ln hB₁ S₁ hln d₁ => ?_
  refine law_rules V hh hln hnl S₁ fun s₂ B₂ rl hd hB₂ S₂ hrl hhd d₂ => ?_
  refine law_row V hh (hln.mono hB₂) hnl hhd S₂ fun s₃ B₃ lw hB₃ S₃ hlw d₃ => ?_
  have hrl₃ := hrl.mono hB₃
  clear hln hhd hrl
  generalize hrow : rowN (numsOf sc) = row at hlw hrow4 hrsym
  generalize hrs : rulesN (numsOf sc) 3 = rs at hrl₃ hst h3
  obtain ⟨p0, p1, p2, rfl⟩ := three h3
  have O := ok3_of hst
  have hlf : ∀ x ∈ row.flatMap (expand [p0, p1, p2] 3), Leaf x := lv3_leaf O hrsym
  have hlfn : ∀ n ∈ row, ∀ x ∈ expand [p0, p1, p2] 3 n, Leaf x := fun n hn x hx => hlf x (List.mem_flatMap.mpr ⟨n, hn, hx⟩)
  have hll := lv_len [p0, p1, p2] row
  have hrne : row ≠ [] := fun e => by rw [e] at hrow4; simp at hrow4
  have hlne := lv_ne O hrne hrsym
  have hfit := fit_law O hrow4 hrsym
  have T := told_law O hlf hlne
  have hmelt : ∀ l, Melts [p0, p1, p2] (row.flatMap (expand [p0, p1, p2] 3)).length (row.flatMap (expand [p0, p1, p2] 3)) l → written [p0, p1, p2] (row.flatMap (expand [p0, p1, p2] 3)) = l := fun l hl => by
    rw [written_W3 O]; exact (melts_eq O hl (Nat.le_refl _)).symm
  generalize hlv : row.flatMap (expand [p0, p1, p2] 3) = lv at hlf hll hlne hfit T hmelt
  generalize htd : written [p0, p1, p2] lv = td at hfit T hmelt
  have hll' : lv.length ≤ 32 := by omega
  have htl := T.len
  have hp16 : ∀ p ∈ td.map (expand [p0, p1, p2] 3), p.length ≤ 16 := fun p hp => by
    obtain ⟨n, _, rfl⟩ := List.mem_map.mp hp
    have := expand_length [p0, p1, p2] 3 n
    omega
  refine law_texts V Rm' hst h3 hlw (by omega) hrsym hrl₃ S₃ fun s₄ B₄ lt hB₄ S₄ hlt d₄ => ?_
  have hlw := hlw.mono hB₄
  have hrl := hrl₃.mono hB₄
  refine law_leaves V Rm' hst h3 hlw hrne (by omega) hrsym hrl S₄ fun s₅ B₅ ll hB₅ S₅ hlls d₅ => ?_
  rw [hlv] at hlls
  have hlw := hlw.mono hB₅
  have hrl := hrl.mono hB₅
  have hlt := hlt.mono hB₅
  refine law_sizes V hh hlls (by omega) S₅ fun s₆ B₆ lz hB₆ S₆ hlz d₆ => ?_
  have hlw := hlw.mono hB₆
  have hrl := hrl.mono hB₆
  have hlt := hlt.mono hB₆
  have hlls := hlls.mono hB₆
  refine law_places V Rm' hlt (by omega) hlv.symm hlf (by omega) S₆ fun s₇ B₇ lp hB₇ S₇ hlp d₇ => ?_
  have hlw := hlw.mono hB₇
  have hrl := hrl.mono hB₇
  have hlt := hlt.mono hB₇
  have hlls := hlls.mono hB₇
  refine law_if1 V Rm' hlf (by omega) (hlz.mono hB₇) hlp S₇ fun s₈ B₈ hB₈ S₈ d₈ => ?_
  have hlw := hlw.mono hB₈
  have hrl := hrl.mono hB₈
  have hlt := hlt.mono hB₈
  have hlls := hlls.mono hB₈
  refine law_units V Rm' hlt (by omega) hlv.symm hlf (by omega) S₈ fun s₉ B₉ lu hB₉ S₉ hlu d₉ => ?_
  have hlw := hlw.mono hB₉
  have hrl := hrl.mono hB₉
  have hlt := hlt.mono hB₉
  have hlls := hlls.mono hB₉
  refine law_told V Rm' hlu hrl (by omega) S₉ fun s₁₀ B₁₀ ld hB₁₀ S₁₀ hld d₁₀ => ?_
  rw [htd] at hld
  have hlw := hlw.mono hB₁₀
  have hrl := hrl.mono hB₁₀
  have hlt := hlt.mono hB₁₀
  have hlls := hlls.mono hB₁₀
  have hlu := hlu.mono hB₁₀
  refine law_if2 V Rm' hld hlls hrl (by omega) hlne (by simp) hmelt S₁₀ fun s₁₁ B₁₁ hB₁₁ S₁₁ d₁₁ => ?_
  have hlw := hlw.mono hB₁₁
  have hrl := hrl.mono hB₁₁
  have hlt := hlt.mono hB₁₁
  have hlu := hlu.mono hB₁₁
  have hld := hld.mono hB₁₁
  refine law_fits V Rm' hlt hlw hrow4 hrl hlfn S₁₁ fun s₁₂ B₁₂ lf hB₁₂ S₁₂ hlfs d₁₂ => ?_
  have hlw := hlw.mono hB₁₂
  have hrl := hrl.mono hB₁₂
  have hlu := hlu.mono hB₁₂
  have hld := hld.mono hB₁₂
  refine law_if3 V Rm' hlw hld hlfs hfit S₁₂ fun s₁₃ B₁₃ hB₁₃ S₁₃ d₁₃ => ?_
  have hrl := hrl.mono hB₁₃
  have hlu := hlu.mono hB₁₃
  have hld := hld.mono hB₁₃
  refine law_cut V Rm' hst h3 hlu hld hrl T.sym T.ne (by omega) T.back T.ex S₁₃ fun s₁₄ B₁₄ lpc hB₁₄ S₁₄ hlpc d₁₄ => ?_
  have hrl := hrl.mono hB₁₄
  have hld := hld.mono hB₁₄
  refine law_if4 V Rm' hlpc hld hrl (by omega) (by rw [List.length_map]; omega) hp16 T.one S₁₄ fun s₁₅ B₁₅ hB₁₅ S₁₅ d₁₅ => ?_
  have hrl := hrl.mono hB₁₅
  have hld := hld.mono hB₁₅
  have hlpc := hlpc.mono hB₁₅
  refine law_pairs V Rm' hlpc hrl (by rw [List.length_map]; omega) (by have := T.ne; simpa using this) hp16 S₁₅ fun s₁₆ B₁₆ lq hB₁₆ S₁₆ hlq d₁₆ => ?_
  have hld := hld.mono hB₁₆
  refine law_ret V Rm' hlq hld (by omega) T.ne T.two S₁₆ fun s₁₇ B₁₇ hB₁₇ hk₁₇ d₁₇ => ?_
  have hk : Sub (Hp s.heap) (Hp s₁₇.heap) := hB₁.trans (hB₂.trans (hB₃.trans (hB₄.trans (hB₅.trans (hB₆.trans (hB₇.trans (hB₈.trans (hB₉.trans (hB₁₀.trans (hB₁₁.trans (hB₁₂.trans (hB₁₃.trans (hB₁₄.trans (hB₁₅.trans (hB₁₆.trans (hB₁₇.trans hk₁₇))))))))))))))))
  have hd : Side s s₁₇ := (show Side s s₁ from d₁).trans (d₂.trans (d₃.trans (d₄.trans (d₅.trans (d₆.trans (d₇.trans (d₈.trans (d₉.trans (d₁₀.trans (d₁₁.trans (d₁₂.trans (d₁₃.trans (d₁₄.trans (d₁₅.trans (d₁₆.trans d₁₇)))))))))))))))
  exact h s₁₇ ⟨fun b o e => hk b o e, hd⟩
end
end Mine
end
/-! ## F38 -/
section
set_option maxRecDepth 100000
set_option maxHeartbeats 4000000
open PySem PySem.Calls PySem.W PyProof.Rows
namespace Mine
theorem reads_int {v : Value} {n : Int} (h : ∀ h' : Heap, Reads h' v (.int n) []) : ∃ t, v = .int n t := by
  have := h default
  cases this with
  | int i t => exact ⟨t, rfl⟩
theorem wd_of {p : Program} {loose : List Str} {mean : ExcName → Option Value} {mg mb : Str → Option Value} {h : Heap} (T : Top p loose mean mg mb h) (h1 : ∀ k ∈ defsUsed, defAt k ∈ recsOf p)
    (h2 : (builtinsUsed.all fun x => !(startupNames.contains x || loose.contains x || ((recsOf p).map (·.name)).contains x || ((litsOf p).map (·.1)).contains x || ((clssOf p loose).map (·.name)).contains x) && x != ("__name__" : Str)) = true)
    (h3 : valOf p "NT_OFFSET" = some (.int 256)) (h4 : valOf p "CHAR_MAX" = some (.int 127)) : Wd mg mb h where
  g := T.g
  b := T.b
  nolimit := T.nolimit
  fn := fun k hk => T.fn _ (h1 k hk)
  bi := fun x hx => by
    have hx' := List.all_eq_true.mp h2 x hx
    simp only [Bool.and_eq_true, Bool.not_eq_true', Bool.or_eq_false_iff, bne_iff_ne] at hx'
    obtain ⟨⟨⟨⟨⟨a, b⟩, c⟩, d⟩, e⟩, n⟩ := hx'
    have no : ∀ l : List Str, l.contains x = false → x ∉ l := fun l hl hm => by
      have := List.contains_iff_mem.mpr hm
      rw [hl] at this; cases this
    exact ⟨T.free x (no _ a) (no _ b) (no _ c) (no _ d) (no _ e), T.builtins x n⟩
  nt := by
    obtain ⟨v, hv, hr⟩ := T.const _ _ h3
    obtain ⟨t, rfl⟩ := reads_int hr
    exact ⟨t, hv⟩
  cm := by
    obtain ⟨v, hv, hr⟩ := T.const _ _ h4
    obtain ⟨t, rfl⟩ := reads_int hr
    exact ⟨t, hv⟩
theorem room_caller : Room callerA 16 210 := ⟨rfl, by decide +kernel, by decide +kernel⟩
end Mine
end
open PySem PySem.W PyProof.Rows
set_option maxRecDepth 100000 in
set_option maxHeartbeats 8000000 in
theorem PySem.Challenge.cw_wc0001_01_holds : PySem.Challenge.rw_wc0001_01.Holds := by
  (w_on; o_law; k_head; (case hw => w_witness2))
  intro w s₀ s₁ mg mb G Y fa o pm cd doc dV kV ho hd hcd hD hmg hg args vals as hpre hlay hrd hwl hlo
  refine Ground.open G ?_
  intro T B D TE TW
  have W : Mine.Wd mg mb s₁.heap := Mine.wd_of T (fun k hk => by
    simp only [Mine.defsUsed, List.mem_cons, List.not_mem_nil, or_false] at hk
    rcases hk with rfl | rfl | rfl | rfl | rfl | rfl | rfl | rfl | rfl | rfl
    · exact List.mem_of_getElem? (i := 0) rfl
    · exact List.mem_of_getElem? (i := 1) rfl
    · exact List.mem_of_getElem? (i := 2) rfl
    · exact List.mem_of_getElem? (i := 3) rfl
    · exact List.mem_of_getElem? (i := 4) rfl
    · exact List.mem_of_getElem? (i := 5) rfl
    · exact List.mem_of_getElem? (i := 6) rfl
    · exact List.mem_of_getElem? (i := 7) rfl
    · exact List.mem_of_getElem? (i := 8) rfl
    · exact List.mem_of_getElem? (i := 9) rfl) (by decide +kernel) (by rfl) (by rfl)
  have ha : mg (Mine.defAt 15).name = some (.ref fa) := hmg
  clear T B D TE TW ho hd hcd hD hmg Y
  wrow_args hpre hlay hrd hwl hlo
  all_goals (
    rename Heap.IsList _ _ _ => hL
    rename IntsAre _ _ => hI
    rename ¬ _ < _ => hle
    refine wpAny_call (codeAny_mono (Mine.law_ok W ha hL hI (by omega) Mine.room_caller fun s' g => ?_) (fun _ _ h => h))
    exact ⟨.inl ⟨.bool true, .bool true, [], rfl, fun _ => rfl, .bool true, by wrow_post, unshared_nil⟩, .of_keep g.keep, g.side.1, g.side.2.2 (.of_eq hg)⟩)
