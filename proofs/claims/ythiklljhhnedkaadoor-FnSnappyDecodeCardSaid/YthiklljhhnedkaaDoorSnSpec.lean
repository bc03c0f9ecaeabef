/-
  The block format as a plain function on lists of bytes. No program in sight.
-/
import Derived.Test.YthiklljhhnedkaaDoorSl
namespace Go.Proofs.YthiklljhhnedkaaDoor
open Go.RowKit

/-- n bytes, each from so far back -/
def copyN (o : List UInt8) (off : Nat) : Nat → List UInt8
  | 0 => o
  | n + 1 => copyN (o ++ [o.getD (o.length - off) 0]) off n
theorem copyN_length : ∀ (n : Nat) (o : List UInt8) (off : Nat), (copyN o off n).length = o.length + n
  | 0, _, _ => rfl
  | n + 1, o, off => by
    rw [copyN, copyN_length n]
    simp
    omega
theorem copyN_take : ∀ (n : Nat) (o : List UInt8) (off : Nat), (copyN o off n).take o.length = o
  | 0, o, _ => by simp [copyN]
  | n + 1, o, off => by
    rw [copyN]
    have h := copyN_take n (o ++ [o.getD (o.length - off) 0]) off
    have h2 := congrArg (List.take o.length) h
    rw [List.take_take] at h2
    simp only [List.length_append, List.length_cons, List.length_nil] at h2
    rw [Nat.min_eq_left (by omega)] at h2
    rw [h2]
    simp
/-- one more byte, at the end -/
theorem copyN_snoc : ∀ (n : Nat) (o : List UInt8) (off : Nat), copyN o off (n + 1) = copyN o off n ++ [(copyN o off n).getD (o.length + n - off) 0]
  | 0, o, off => rfl
  | n + 1, o, off => by
    rw [copyN, copyN_snoc n]
    rw [show copyN o off (n + 1) = copyN (o ++ [o.getD (o.length - off) 0]) off n from rfl]
    simp only [List.length_append, List.length_cons, List.length_nil]
    rw [show o.length + (0 + 1) + n - off = o.length + (n + 1) - off by omega]
/-- where nothing overlaps, it is one piece -/
theorem copyN_piece (o : List UInt8) (off : Nat) : ∀ (n : Nat), n ≤ off → off ≤ o.length → copyN o off n = o ++ (o.drop (o.length - off)).take n
  | 0, _, _ => by simp [copyN]
  | n + 1, hn, ho => by
    rw [copyN_snoc, copyN_piece o off n (by omega) ho]
    rw [List.append_assoc]
    congr 1
    rw [List.getD_eq_getElem?_getD, List.getElem?_append_left (by omega)]
    rw [List.take_add_one, List.getElem?_drop, show o.length - off + n = o.length + n - off by omega]
    rw [List.getElem?_eq_getElem (show o.length + n - off < o.length by omega)]
    rfl

inductive SnR
  | opn
  | bad
  | next (k : Nat) (o : List UInt8)
/-- so many bytes as they stand -/
def snLit (q : List UInt8) (p n : Nat) (o : List UInt8) : SnR := if q.length < p + n then .bad else .next (p + n) (o ++ (q.drop p).take n)
/-- so many bytes from so far back -/
def snCpy (p off n : Nat) (o : List UInt8) : SnR := if o.length < off then .bad else if off = 0 then .opn else .next p (copyN o off n)
def sizeOfTag (t : Nat) : Nat := if t = 1 then 1 else if t = 2 then 2 else 4
def offOf (q : List UInt8) (k f : Nat) : Nat := Lib.leNat ((q.drop (k + 1)).take (sizeOfTag (f % 4))) + if f % 4 = 1 then f / 32 * 256 else 0
def lenOf (f : Nat) : Nat := if f % 4 = 1 then f / 4 % 8 + 4 else f / 4 + 1
/-- one element, whose first byte stands at k -/
def snElem (q : List UInt8) (k : Nat) (o : List UInt8) (f : Nat) : SnR :=
  if f % 4 = 0 then
    if f / 4 < 60 then snLit q (k + 1) (f / 4 + 1) o
    else if q.length < k + 1 + (f / 4 - 59) then .bad
    else snLit q (k + 1 + (f / 4 - 59)) (Lib.leNat ((q.drop (k + 1)).take (f / 4 - 59)) + 1) o
  else if q.length < k + 1 + sizeOfTag (f % 4) then .bad
  else snCpy (k + 1 + sizeOfTag (f % 4)) (offOf q k f) (lenOf f) o
/-- the elements from k on: what comes out, and the class: 0 good, 1 refused, 2 open -/
def snRun (q : List UInt8) (L : Nat) : Nat → Nat → List UInt8 → Option (List UInt8) × Nat
  | 0, _, _ => (none, 1)
  | fuel + 1, k, o =>
    if k < q.length ∧ o.length ≤ L then
      match snElem q k o (q.getD k 0).toNat with
      | .opn => (none, 2)
      | .bad => (none, 1)
      | .next k' o' => snRun q L fuel k' o'
    else if o.length = L then (some o, 0) else (none, 1)

theorem sizeOfTag_pos (t : Nat) : 0 < sizeOfTag t := by unfold sizeOfTag; split <;> (try split) <;> omega
theorem snElem_on {q : List UInt8} {k k' f : Nat} {o o' : List UInt8} (h : snElem q k o f = .next k' o') : k < k' := by
  unfold snElem snLit snCpy at h
  have := sizeOfTag_pos (f % 4)
  split at h
  · split at h
    · split at h
      · cases h
      · injection h; omega
    · split at h
      · cases h
      · split at h
        · cases h
        · injection h; omega
  · split at h
    · cases h
    · split at h
      · cases h
      · split at h
        · cases h
        · injection h; omega
/-- the elements from k on, with fuel enough -/
def snGo (q : List UInt8) (L k : Nat) (o : List UInt8) : Option (List UInt8) × Nat := snRun q L (q.length - k + 1) k o
theorem snRun_fuel (q : List UInt8) (L : Nat) : ∀ (f1 f2 k : Nat) (o : List UInt8), q.length - k < f1 → q.length - k < f2 → snRun q L f1 k o = snRun q L f2 k o
  | 0, _, _, _, h, _ => by omega
  | _ + 1, 0, _, _, _, h => by omega
  | f1 + 1, f2 + 1, k, o, h1, h2 => by
    unfold snRun
    split
    · rename_i hk
      cases he : snElem q k o (q.getD k 0).toNat with
      | opn => rfl
      | bad => rfl
      | next k' o' =>
        have := snElem_on he
        exact snRun_fuel q L f1 f2 k' o' (by omega) (by omega)
    · rfl
theorem snGo_opn {q : List UInt8} {L k : Nat} {o : List UInt8} (hk : k < q.length) (ho : o.length ≤ L) (he : snElem q k o (q.getD k 0).toNat = .opn) : snGo q L k o = (none, 2) := by
  unfold snGo snRun
  rw [if_pos ⟨hk, ho⟩, he]
theorem snGo_bad {q : List UInt8} {L k : Nat} {o : List UInt8} (hk : k < q.length) (ho : o.length ≤ L) (he : snElem q k o (q.getD k 0).toNat = .bad) : snGo q L k o = (none, 1) := by
  unfold snGo snRun
  rw [if_pos ⟨hk, ho⟩, he]
theorem snGo_next {q : List UInt8} {L k k' : Nat} {o o' : List UInt8} (hk : k < q.length) (ho : o.length ≤ L) (he : snElem q k o (q.getD k 0).toNat = .next k' o') : snGo q L k o = snGo q L k' o' := by
  have h := snElem_on he
  unfold snGo
  rw [snRun, if_pos ⟨hk, ho⟩, he]
  exact snRun_fuel q L _ _ k' o' (by omega) (by omega)
theorem snGo_end {q : List UInt8} {L k : Nat} {o : List UInt8} (h : ¬ (k < q.length ∧ o.length ≤ L)) : snGo q L k o = if o.length = L then (some o, 0) else (none, 1) := by
  unfold snGo snRun
  rw [if_neg h]
theorem snGo_long {q : List UInt8} {L k : Nat} {o : List UInt8} (h : L < o.length) : snGo q L k o = (none, 1) := by
  rw [snGo_end (by omega), if_neg (by omega)]
theorem snRun_class (q : List UInt8) (L : Nat) : ∀ (fuel k : Nat) (o : List UInt8), (∃ r, snRun q L fuel k o = (some r, 0) ∧ r.length = L) ∨ snRun q L fuel k o = (none, 1) ∨ snRun q L fuel k o = (none, 2)
  | 0, _, _ => .inr (.inl rfl)
  | fuel + 1, k, o => by
    unfold snRun
    split
    · cases snElem q k o (q.getD k 0).toNat with
      | opn => exact .inr (.inr rfl)
      | bad => exact .inr (.inl rfl)
      | next k' o' => exact snRun_class q L fuel k' o'
    · split
      · rename_i h; exact .inl ⟨o, rfl, h⟩
      · exact .inr (.inl rfl)
theorem snGo_class (q : List UInt8) (L k : Nat) (o : List UInt8) : (∃ r, snGo q L k o = (some r, 0) ∧ r.length = L) ∨ snGo q L k o = (none, 1) ∨ snGo q L k o = (none, 2) := snRun_class q L _ k o
end Go.Proofs.YthiklljhhnedkaaDoor
