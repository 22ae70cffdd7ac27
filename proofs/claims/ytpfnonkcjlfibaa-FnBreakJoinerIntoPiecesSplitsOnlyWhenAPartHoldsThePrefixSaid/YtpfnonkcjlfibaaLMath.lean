/-
  Plain mathematics of the breaking at unique keys. Conditions: none.
-/
import Derived.Test.YtpfnonkcjlfibaaJMath
namespace Go.Proofs.Ytpfnonkcjlfibaa.LM
open Go.Proofs.Ytpfnonkcjlfibaa.JM

/-- the first place of pre in zs -/
def First (pre zs : List UInt8) (b : Nat) : Prop := b + pre.length ≤ zs.length ∧ occ zs pre b = true ∧ ∀ j, j < b → occ zs pre j = false

theorem First.one {pre zs : List UInt8} {b b' : Nat} (h : First pre zs b) (h' : First pre zs b') : b = b' := by
  rcases Nat.lt_trichotomy b b' with hlt | he | hlt
  · have := h'.2.2 b hlt
    rw [h.2.1] at this
    cases this
  · exact he
  · have := h.2.2 b' hlt
    rw [h'.2.1] at this
    cases this

def isDig (d : UInt8) : Bool := decide (48 ≤ d.toNat) && decide (d.toNat ≤ 57)
def dig (l : List UInt8) : Bool := l.all isDig
def num (l : List UInt8) : Nat := l.foldl (fun v d => v * 10 + (d.toNat - 48)) 0
def letter (o : Option UInt8) : Nat := if o = some 65 then 1 else if o = some 67 then 2 else 0
/-- the eight bytes behind a key's letter -/
def eight (t : List UInt8) : List UInt8 := (t.drop 1).take 8
def keyB (nf nc : Nat) (t : List UInt8) : Bool :=
  decide (9 ≤ t.length) && (dig (eight t) && (decide (letter t[0]? = 1 ∧ num (eight t) < nf) || decide (letter t[0]? = 2 ∧ num (eight t) < nc)))

abbrev PK := List UInt8 × Nat × Nat

/-- no key stands at the first place of the prefix -/
def NoKey (pre : List UInt8) (nf nc : Nat) (zs : List UInt8) : Prop := ∀ b, First pre zs b → keyB nf nc (zs.drop (b + pre.length)) = false

inductive Brk (pre : List UInt8) (nf nc : Nat) : List UInt8 → List PK → Prop
  | last (zs : List UInt8) (h : NoKey pre nf nc zs) : Brk pre nf nc zs [(zs, 0, 0)]
  | more (zs : List UInt8) (b : Nat) (ps : List PK) (hf : First pre zs b) (hk : keyB nf nc (zs.drop (b + pre.length)) = true)
      (h : Brk pre nf nc (zs.drop (b + pre.length + 9)) ps) :
      Brk pre nf nc zs ((zs.take b, num (eight (zs.drop (b + pre.length))), letter (zs.drop (b + pre.length))[0]?) :: ps)

section
variable {pre zs : List UInt8} {nf nc : Nat} {ps ps' : List PK}

theorem Brk.det (h : Brk pre nf nc zs ps) : ∀ {ps'}, Brk pre nf nc zs ps' → ps = ps' := by
  induction h with
  | last zs h =>
    intro ps' h'
    cases h' with
    | last _ _ => rfl
    | more _ b ps hf hk _ => rw [h b hf] at hk; cases hk
  | more zs b ps hf hk _ ih =>
    intro ps' h'
    cases h' with
    | last _ h => rw [h b hf] at hk; cases hk
    | more _ b' ps' hf' _ h' =>
      obtain rfl := hf.one hf'
      rw [ih h']

theorem Brk.ne (h : Brk pre nf nc zs ps) : ps ≠ [] := by cases h <;> simp

theorem keyB_parts {t : List UInt8} (h : keyB nf nc t = true) : 9 ≤ t.length ∧ dig (eight t) = true ∧ ((letter t[0]? = 1 ∧ num (eight t) < nf) ∨ (letter t[0]? = 2 ∧ num (eight t) < nc)) := by
  unfold keyB at h
  simp only [Bool.and_eq_true, Bool.or_eq_true, decide_eq_true_eq] at h
  exact ⟨h.1, h.2.1, h.2.2⟩

/-- what a piece that is not the last says -/
theorem Brk.tail {p : PK} (h : Brk pre nf nc zs (p :: ps)) (hne : ps ≠ []) :
    First pre zs p.1.length ∧ p.1 = zs.take p.1.length ∧ keyB nf nc (zs.drop (p.1.length + pre.length)) = true ∧ p.1.length + pre.length + 9 ≤ zs.length ∧
    p.2 = (num (eight (zs.drop (p.1.length + pre.length))), letter (zs.drop (p.1.length + pre.length))[0]?) ∧ Brk pre nf nc (zs.drop (p.1.length + pre.length + 9)) ps := by
  cases h with
  | last _ _ => exact absurd rfl hne
  | more _ b _ hf hk h =>
    have hl : (zs.take b).length = b := by rw [List.length_take]; have := hf.1; omega
    have h9 := (keyB_parts hk).1
    rw [List.length_drop] at h9
    simp only [hl]
    exact ⟨hf, trivial, hk, by omega, trivial, h⟩
theorem Brk.end_ {p : PK} (h : Brk pre nf nc zs [p]) : p = (zs, 0, 0) ∧ NoKey pre nf nc zs := by
  cases h with
  | last _ h => exact ⟨rfl, h⟩
  | more _ _ _ _ _ h => exact absurd rfl h.ne

theorem num_add (l : List UInt8) (d : UInt8) : num (l ++ [d]) = num l * 10 + (d.toNat - 48) := by simp [num]
theorem dig_add (l : List UInt8) (d : UInt8) : dig (l ++ [d]) = (dig l && isDig d) := by simp [dig]
theorem isDig_iff {d : UInt8} : isDig d = true ↔ 48 ≤ d.toNat ∧ d.toNat ≤ 57 := by simp [isDig]

theorem num_lt : ∀ (k : Nat) (l : List UInt8), l.length = k → dig l = true → num l < 10 ^ k := by
  intro k
  induction k with
  | zero => intro l hl _; rw [List.eq_nil_of_length_eq_zero hl]; simp [num]
  | succ k ih =>
    intro l hl hd
    rcases List.eq_nil_or_concat l with rfl | ⟨l', d, rfl⟩
    · simp at hl
    · rw [List.concat_eq_append] at *
      rw [dig_add, Bool.and_eq_true] at hd
      have h1 := ih l' (by simpa using hl) hd.1
      have h2 := isDig_iff.1 hd.2
      rw [num_add, Nat.pow_succ]
      omega

/-- k decimal digits of x -/
def dec : Nat → Nat → List UInt8
  | 0, _ => []
  | k + 1, x => dec k (x / 10) ++ [UInt8.ofNat (48 + x % 10)]
theorem dec_length : ∀ (k x : Nat), (dec k x).length = k
  | 0, _ => rfl
  | k + 1, x => by simp [dec, dec_length k]

theorem dec_num : ∀ (k : Nat) (l : List UInt8), l.length = k → dig l = true → dec k (num l) = l := by
  intro k
  induction k with
  | zero => intro l hl _; rw [List.eq_nil_of_length_eq_zero hl]; rfl
  | succ k ih =>
    intro l hl hd
    rcases List.eq_nil_or_concat l with rfl | ⟨l', d, rfl⟩
    · simp at hl
    · rw [List.concat_eq_append] at *
      rw [dig_add, Bool.and_eq_true] at hd
      have h2 := isDig_iff.1 hd.2
      have h3 := ih l' (by simpa using hl) hd.1
      rw [num_add]
      unfold dec
      have e1 : (num l' * 10 + (d.toNat - 48)) / 10 = num l' := by omega
      have e2 : 48 + (num l' * 10 + (d.toNat - 48)) % 10 = d.toNat := by omega
      rw [e1, e2, h3]
      simp

/-- a key's bytes -/
def keyBytes (pre : List UInt8) (idx kind : Nat) : List UInt8 := pre ++ ((if kind = 1 then 65 else 67) :: dec 8 idx)

def render (pre : List UInt8) : List PK → List UInt8
  | [] => []
  | [p] => p.1
  | p :: q :: ps => p.1 ++ (keyBytes pre p.2.1 p.2.2 ++ render pre (q :: ps))

theorem letter_one {o : Option UInt8} (h : letter o = 1) : o = some 65 := by
  unfold letter at h
  split at h
  · assumption
  · split at h <;> omega
theorem letter_two {o : Option UInt8} (h : letter o = 2) : o = some 67 := by
  unfold letter at h
  split at h
  · omega
  · split at h
    · assumption
    · omega

theorem key_bytes {t : List UInt8} (h : keyB nf nc t = true) : (if letter t[0]? = 1 then 65 else 67) :: dec 8 (num (eight t)) = t.take 9 := by
  obtain ⟨h9, hd, hk⟩ := keyB_parts h
  have h8 : (eight t).length = 8 := by simp [eight]; omega
  rw [dec_num 8 _ h8 hd]
  cases t with
  | nil => simp at h9
  | cons x r =>
    have : (if letter (x :: r)[0]? = 1 then 65 else 67) = x := by
      rcases hk with ⟨h1, _⟩ | ⟨h1, _⟩
      · have := letter_one h1
        rw [if_pos h1]
        simpa using this.symm
      · have := letter_two h1
        rw [if_neg (by omega)]
        simpa using this.symm
    rw [this]
    simp [eight]

theorem Brk.render (h : Brk pre nf nc zs ps) : LM.render pre ps = zs := by
  induction h with
  | last zs h => rfl
  | more zs b ps hf hk h ih =>
    cases ps with
    | nil => exact absurd rfl h.ne
    | cons q ps =>
      unfold LM.render
      rw [ih]
      unfold keyBytes
      simp only
      rw [key_bytes hk]
      have ho : (zs.drop b).take pre.length = pre := by simpa [occ] using hf.2.1
      conv => rhs; rw [← List.take_append_drop b zs]
      congr 1
      rw [List.append_assoc]
      conv => rhs; rw [← List.take_append_drop pre.length (zs.drop b), ho]
      congr 1
      rw [List.drop_drop]
      conv => rhs; rw [← List.take_append_drop 9 (zs.drop (b + pre.length)), List.drop_drop]

/-- what each piece says -/
theorem Brk.each (h : Brk pre nf nc zs ps) : ∀ (i : Nat) (p : PK), ps[i]? = some p →
    (i + 1 = ps.length → p.2 = (0, 0)) ∧ (i + 1 < ps.length → (p.2.2 = 1 ∨ p.2.2 = 2) ∧ p.2.1 < 100000000 ∧ (p.2.2 = 1 → p.2.1 < nf) ∧ (p.2.2 = 2 → p.2.1 < nc)) := by
  induction h with
  | last zs h =>
    intro i p hp
    cases i with
    | zero =>
      simp at hp
      subst hp
      simp
    | succ i => simp at hp
  | more zs b ps hf hk h ih =>
    intro i p hp
    have hl : 0 < ps.length := by
      cases ps with
      | nil => exact absurd rfl h.ne
      | cons _ _ => simp
    cases i with
    | zero =>
      obtain rfl := Option.some.inj (List.getElem?_cons_zero.symm.trans hp)
      refine ⟨fun e => by rw [List.length_cons] at e; omega, fun _ => ?_⟩
      obtain ⟨h9, hd, hk⟩ := keyB_parts hk
      have h8 : (eight (zs.drop (b + pre.length))).length = 8 := by simp [eight] at h9 ⊢; omega
      have hlt := num_lt 8 _ h8 hd
      refine ⟨?_, hlt, ?_, ?_⟩
      · rcases hk with hk | hk
        · exact .inl hk.1
        · exact .inr hk.1
      · rcases hk with hk | hk
        · exact fun _ => hk.2
        · exact fun e => absurd (hk.1.symm.trans e) (by decide)
      · rcases hk with hk | hk
        · exact fun e => absurd (hk.1.symm.trans e) (by decide)
        · exact fun _ => hk.2
    | succ i =>
      have := ih i p (by simpa using hp)
      simpa using this

/-- no piece is longer than the text -/
theorem Brk.len (h : Brk pre nf nc zs ps) : ∀ p ∈ ps, p.1.length ≤ zs.length := by
  induction h with
  | last zs h => intro p hp; rw [List.mem_singleton] at hp; rw [hp]; exact Nat.le_refl _
  | more zs b ps hf hk h ih =>
    intro p hp
    rcases List.mem_cons.1 hp with rfl | hp
    · simp only [List.length_take]; omega
    · have := ih p hp
      rw [List.length_drop] at this
      omega

/-- the places of the pieces -/
theorem Brk.at {pos : Nat} {i : Nat} (hb : Brk pre nf nc (zs.drop pos) (ps.drop i)) {p : PK} (hi : ps[i]? = some p) :
    (i + 1 = ps.length → p.1 = zs.drop pos ∧ NoKey pre nf nc (zs.drop pos)) ∧
    (i + 1 < ps.length → First pre (zs.drop pos) p.1.length ∧ pos + p.1.length + pre.length + 9 ≤ zs.length ∧ Brk pre nf nc (zs.drop (pos + (p.1.length + pre.length + 9))) (ps.drop (i + 1))) := by
  have hlt := (List.getElem?_eq_some_iff.1 hi).1
  have hd : ps.drop i = p :: ps.drop (i + 1) := by
    rw [List.drop_eq_getElem_cons hlt]
    congr 1
    exact (List.getElem?_eq_some_iff.1 hi).2
  rw [hd] at hb
  constructor
  · intro e
    have hnil : ps.drop (i + 1) = [] := List.drop_eq_nil_of_le (by omega)
    rw [hnil] at hb
    have := hb.end_
    exact ⟨congrArg Prod.fst this.1, this.2⟩
  · intro e
    have hne : ps.drop (i + 1) ≠ [] := fun e' => by
      have := congrArg List.length e'
      simp at this
      omega
    obtain ⟨h1, _, _, h4, _, h6⟩ := hb.tail hne
    rw [List.length_drop] at h4
    rw [List.drop_drop] at h6
    exact ⟨h1, by omega, h6⟩
end
end Go.Proofs.Ytpfnonkcjlfibaa.LM
