/-
  THE PLAIN LAW of 'labelsEnd': no Go in sight.
-/
import Derived.Test.Qxb6000748aModsProg
namespace Go.Proofs.Qxb6000748aMods.Label

/-- What 'labelsEnd' answers from index i on: 'q': inside quotes; 'esc': the byte is escaped. -/
def scan (q esc : Bool) : List UInt8 → Nat → Int
  | [], _ => -1
  | c :: r, i =>
    if esc = true then scan q false r (i + 1)
    else if c = 92 then scan q q r (i + 1)
    else if c = 34 then scan (!q) false r (i + 1)
    else if c = 125 then (if q = true then scan q false r (i + 1) else (i : Int))
    else scan q false r (i + 1)

theorem scan_cons (q e : Bool) (c : UInt8) (r : List UInt8) (i : Nat) : scan q e (c :: r) i =
    if e = true then scan q false r (i + 1)
    else if c = 92 then scan q q r (i + 1)
    else if c = 34 then scan (!q) false r (i + 1)
    else if c = 125 then (if q = true then scan q false r (i + 1) else (i : Int))
    else scan q false r (i + 1) := rfl

def labels (s : ByteArray) : Int := scan false false (s.data.toList.drop 1) 1

/-- A value's bytes, escaped. -/
def esc : List UInt8 → List UInt8
  | [] => []
  | c :: r => if c = 92 ∨ c = 34 then 92 :: c :: esc r else c :: esc r

theorem esc_append (a b : List UInt8) : esc (a ++ b) = esc a ++ esc b := by
  induction a with
  | nil => rfl
  | cons c r ih =>
    simp only [List.cons_append, esc, ih]
    split <;> rfl

theorem esc_len : ∀ l : List UInt8, (esc l).length ≤ 2 * l.length
  | [] => Nat.le_refl _
  | c :: r => by
    have := esc_len r
    unfold esc
    split <;> simp <;> omega

/-- A key without quote and brace is passed over. -/
theorem scan_key (t : List UInt8) : ∀ (k : List UInt8) (i : Nat), (∀ c, c ∈ k → c ≠ 34 ∧ c ≠ 125) → scan false false (k ++ t) i = scan false false t (i + k.length)
  | [], i, _ => rfl
  | c :: r, i, h => by
    have ih := scan_key t r (i + 1) (fun d hd => h d (List.mem_cons_of_mem _ hd))
    have hc := h c List.mem_cons_self
    show scan false false (c :: (r ++ t)) i = _
    rw [scan_cons, if_neg (by decide), if_neg hc.1, if_neg hc.2]
    rw [show i + (c :: r).length = i + 1 + r.length from by simp; omega, ← ih]
    split <;> rfl

/-- An escaped value is passed over inside quotes. -/
theorem scan_val (t : List UInt8) : ∀ (v : List UInt8) (i : Nat), scan true false (esc v ++ t) i = scan true false t (i + (esc v).length)
  | [], i => rfl
  | c :: r, i => by
    unfold esc
    by_cases h : c = 92 ∨ c = 34
    · rw [if_pos h]
      have ih := scan_val t r (i + 2)
      show scan true false (92 :: c :: (esc r ++ t)) i = _
      rw [scan_cons]
      rw [if_neg (by decide), if_pos rfl]
      rw [scan_cons]
      rw [if_pos rfl, show i + 1 + 1 = i + 2 from rfl, ih]
      congr 1
      simp; omega
    · rw [if_neg h]
      have ih := scan_val t r (i + 1)
      show scan true false (c :: (esc r ++ t)) i = _
      rw [scan_cons]
      rw [if_neg (by decide), if_neg (fun e => h (.inl e)), if_neg (fun e => h (.inr e)), show (c :: esc r).length = (esc r).length + 1 from rfl,
        show i + ((esc r).length + 1) = i + 1 + (esc r).length from by omega, ← ih]
      split
      · rfl
      · rfl

/-- The text that the law builds, up to the closing quote (not with it). -/
def opened (k v : List UInt8) : List UInt8 := 123 :: (k ++ (61 :: 34 :: esc v))
theorem opened_len (k v : List UInt8) : (opened k v).length = k.length + (esc v).length + 3 := by simp [opened]; omega

theorem scan_opened (k v t : List UInt8) (hk : ∀ c, c ∈ k → c ≠ 34 ∧ c ≠ 125) :
    scan false false ((opened k v ++ t).drop 1) 1 = scan true false t ((opened k v).length) := by
  rw [opened_len]
  unfold opened
  show scan false false (((k ++ (61 :: 34 :: esc v)) ++ t)) 1 = _
  rw [List.append_assoc, scan_key _ k 1 hk]
  show scan false false (61 :: 34 :: (esc v ++ t)) (1 + k.length) = _
  rw [scan_cons]
  rw [if_neg (by decide), if_neg (by decide), if_neg (by decide), if_neg (by decide)]
  rw [scan_cons]
  rw [if_neg (by decide), if_neg (by decide), if_pos rfl]
  show scan true false (esc v ++ t) (1 + k.length + 1 + 1) = _
  rw [scan_val]
  congr 1
  omega

theorem whole_is (k v rest : List UInt8) (hk : ∀ c, c ∈ k → c ≠ 34 ∧ c ≠ 125) : labels ⟨(opened k v ++ 34 :: 125 :: rest).toArray⟩ = ((opened k v).length + 1 : Nat) := by
  unfold labels
  show scan false false ((opened k v ++ 34 :: 125 :: rest).drop 1) 1 = _
  rw [scan_opened k v _ hk, scan_cons]
  rw [if_neg (by decide), if_neg (by decide), if_pos rfl]
  rw [scan_cons]
  rw [if_neg (by decide), if_neg (by decide), if_neg (by decide), if_pos rfl, if_neg (by decide)]

theorem cut_is (k v : List UInt8) (hk : ∀ c, c ∈ k → c ≠ 34 ∧ c ≠ 125) : labels ⟨(opened k v).toArray⟩ = -1 := by
  unfold labels
  show scan false false ((opened k v).drop 1) 1 = _
  have h := scan_opened k v [] hk
  rw [List.append_nil] at h
  rw [h]
  rfl
end Go.Proofs.Qxb6000748aMods.Label
