/-
  THE PLAIN LAW: a quoted string read off a list of bytes. No Go in sight.
-/
import Derived.Laws.Strings
namespace Go.Proofs.Ybulkehgi.Quoted

/-- The text up to an unescaped quote (34), a backslash (92) taking the byte behind it as it is; and what follows. -/
def qt : List UInt8 → List UInt8 × List UInt8
  | [] => ([], [])
  | [c] => if c = 34 then ([], []) else if c = 92 then ([], []) else ([c], [])
  | c :: d :: r => if c = 34 then ([], d :: r) else if c = 92 then (d :: (qt r).1, (qt r).2) else (c :: (qt (d :: r)).1, (qt (d :: r)).2)

theorem drop_at {l : List UInt8} {k : Nat} (h : k < l.length) : l.drop k = l[k] :: l.drop (k + 1) := by
  rw [List.drop_eq_getElem_cons h]

theorem qt_quote {l : List UInt8} {k : Nat} (h : k < l.length) (hc : l[k] = 34) : qt (l.drop k) = ([], l.drop (k + 1)) := by
  rw [drop_at h, hc]
  cases l.drop (k + 1) <;> simp [qt]

theorem qt_plain {l : List UInt8} {k : Nat} (h : k < l.length) (h1 : ¬ l[k] = 34) (h2 : ¬ l[k] = 92) :
    (qt (l.drop k)).1 = l[k] :: (qt (l.drop (k + 1))).1 ∧ (qt (l.drop k)).2 = (qt (l.drop (k + 1))).2 := by
  rw [drop_at h]
  cases l.drop (k + 1) <;> simp [qt, h1, h2]

theorem qt_esc {l : List UInt8} {k : Nat} (h : k + 1 < l.length) (h2 : l[k] = 92) :
    (qt (l.drop k)).1 = l[k + 1] :: (qt (l.drop (k + 2))).1 ∧ (qt (l.drop k)).2 = (qt (l.drop (k + 2))).2 := by
  rw [drop_at (show k < l.length by omega), drop_at h, h2]
  constructor <;> simp [qt]

theorem qt_esc_end {l : List UInt8} {k : Nat} (h : k + 1 = l.length) (h2 : l[k] = 92) : qt (l.drop k) = ([], []) := by
  rw [drop_at (show k < l.length by omega), h2, List.drop_eq_nil_of_le (by omega)]
  simp [qt]

theorem qt_over {l : List UInt8} {k : Nat} (h : l.length ≤ k) : qt (l.drop k) = ([], []) := by
  rw [List.drop_eq_nil_of_le h]; rfl

/-! The model's walk: after the bytes before k are read the text so far is acc. -/
def Mid (l acc : List UInt8) (k : Nat) : Prop := (qt (l.drop 1)).1 = acc ++ (qt (l.drop k)).1 ∧ (qt (l.drop 1)).2 = (qt (l.drop k)).2

theorem Mid.start (l : List UInt8) : Mid l [] 1 := ⟨by simp, rfl⟩
theorem Mid.plain {l acc : List UInt8} {k : Nat} (m : Mid l acc k) (h : k < l.length) (h1 : ¬ l[k] = 34) (h2 : ¬ l[k] = 92) : Mid l (acc ++ [l[k]]) (k + 1) := by
  have q := qt_plain h h1 h2
  exact ⟨by rw [m.1, q.1]; simp, by rw [m.2, q.2]⟩
theorem Mid.esc {l acc : List UInt8} {k : Nat} (m : Mid l acc k) (h : k + 1 < l.length) (h2 : l[k] = 92) : Mid l (acc ++ [l[k + 1]]) (k + 2) := by
  have q := qt_esc h h2
  exact ⟨by rw [m.1, q.1]; simp, by rw [m.2, q.2]⟩
theorem Mid.escEnd {l acc : List UInt8} {k : Nat} (m : Mid l acc k) (h : k + 1 = l.length) (h2 : l[k] = 92) : Mid l acc (k + 2) := by
  have q := qt_esc_end h h2
  have q2 := qt_over (l := l) (k := k + 2) (by omega)
  exact ⟨by rw [m.1, q, q2], by rw [m.2, q, q2]⟩
theorem Mid.quote {l acc : List UInt8} {k : Nat} (m : Mid l acc k) (h : k < l.length) (h1 : l[k] = 34) : qt (l.drop 1) = (acc, l.drop (k + 1)) := by
  have q := qt_quote h h1
  exact Prod.ext (by rw [m.1, q]; simp) (by rw [m.2, q])
theorem Mid.over {l acc : List UInt8} {k : Nat} (m : Mid l acc k) (h : l.length ≤ k) : qt (l.drop 1) = (acc, []) := by
  have q := qt_over h
  exact Prod.ext (by rw [m.1, q]; simp) (by rw [m.2, q])

/-! The code's walk: acc holds the text before 'from' = f, the bytes from f up to k stand in s. -/
def part (l : List UInt8) (f k : Nat) : List UInt8 := (l.take k).drop f
theorem part_nil (l : List UInt8) (f : Nat) : part l f f = [] := by
  unfold part; apply List.drop_eq_nil_of_le; simp; omega
theorem part_succ {l : List UInt8} {f k : Nat} (h : k < l.length) (hf : f ≤ k) : part l f (k + 1) = part l f k ++ [l[k]] := by
  unfold part
  rw [List.take_succ_eq_append_getElem h, List.drop_append_of_le_length (by simp; omega)]
theorem part_over {l : List UInt8} {f k : Nat} (h : l.length ≤ k) : part l f k = part l f l.length := by
  unfold part; rw [List.take_of_length_le h, List.take_length]
theorem part_length (l : List UInt8) (f k : Nat) : (part l f k).length ≤ k - f := by
  unfold part; simp; omega

def Code (l acc : List UInt8) (f k : Nat) : Prop := Mid l (acc ++ part l f k) k
theorem Code.start (l : List UInt8) : Code l [] 1 1 := by unfold Code; rw [part_nil]; exact Mid.start l
theorem Code.plain {l acc : List UInt8} {f k : Nat} (m : Code l acc f k) (hf : f ≤ k) (h : k < l.length) (h1 : ¬ l[k] = 34) (h2 : ¬ l[k] = 92) : Code l acc f (k + 1) := by
  unfold Code at *
  rw [part_succ h hf, ← List.append_assoc]
  exact m.plain h h1 h2
theorem Code.esc {l acc : List UInt8} {f k : Nat} (m : Code l acc f k) (h : k < l.length) (h2 : l[k] = 92) : Code l (acc ++ part l f k) (k + 1) (k + 2) := by
  unfold Code at *
  by_cases hk : k + 1 < l.length
  · have e : part l (k + 1) (k + 2) = [l[k + 1]] := by rw [part_succ hk (Nat.le_refl _), part_nil]; rfl
    rw [e]
    exact m.esc hk h2
  · have e : part l (k + 1) (k + 2) = [] := by rw [part_over (by omega), show l.length = k + 1 by omega, part_nil]
    rw [e, List.append_nil]
    exact m.escEnd (by omega) h2
theorem Code.quote {l acc : List UInt8} {f k : Nat} (m : Code l acc f k) (h : k < l.length) (h1 : l[k] = 34) : qt (l.drop 1) = (acc ++ part l f k, l.drop (k + 1)) := Mid.quote m h h1
theorem Code.over {l acc : List UInt8} {f k : Nat} (m : Code l acc f k) (h : l.length ≤ k) : qt (l.drop 1) = (acc ++ part l f l.length, []) := by
  have := Mid.over m h
  rw [part_over h] at this
  exact this
end Go.Proofs.Ybulkehgi.Quoted
