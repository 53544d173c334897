/-
  THE PLAIN LAW for 'proxy.LawS6360CWhole': no Go in sight. 'unq': the inner bytes with each backslash that has an inner byte after it dropped and the byte after it taken literally.
-/
namespace Go.Proofs.Ybulkearq.Plain

def unq : List UInt8 → List UInt8
  | [] => []
  | [c] => [c]
  | c :: d :: rest => if c = 92 then d :: unq rest else c :: unq (d :: rest)

theorem unq_len : (l : List UInt8) → (unq l).length ≤ l.length
  | [] => by simp [unq]
  | [c] => by simp [unq]
  | c :: d :: rest => by
    have h1 := unq_len rest
    have h2 := unq_len (d :: rest)
    simp only [unq]
    split <;> simp_all <;> omega

theorem unq_esc (l : List UInt8) (k : Nat) (h : k + 1 < l.length) (hc : l[k]'(by omega) = 92) :
    unq (l.drop k) = l[k + 1] :: unq (l.drop (k + 2)) := by
  rw [List.drop_eq_getElem_cons (by omega : k < l.length), List.drop_eq_getElem_cons h]
  simp [unq, hc]

theorem unq_plain (l : List UInt8) (k : Nat) (h : k < l.length) (hc : l[k] ≠ 92 ∨ ¬ k + 1 < l.length) :
    unq (l.drop k) = l[k] :: unq (l.drop (k + 1)) := by
  rw [List.drop_eq_getElem_cons h]
  by_cases h2 : k + 1 < l.length
  · have hc' : l[k] ≠ 92 := hc.resolve_right (fun x => x h2)
    rw [List.drop_eq_getElem_cons h2]
    simp [unq, hc']
  · rw [List.drop_eq_nil_of_le (by omega : l.length ≤ k + 1)]
    simp [unq]

/-- The inner bytes: all but the first and the last. -/
def inner (s : ByteArray) : List UInt8 := (s.data.toList.take (s.size - 1)).drop 1

/-- What 'unquote' answers at a quoted string. -/
def outOf (s : ByteArray) : ByteArray := ⟨(unq (inner s)).toArray⟩

end Go.Proofs.Ybulkearq.Plain
