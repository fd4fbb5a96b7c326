/-
  THE PLAIN LAW: no Go in sight: the nested text of a chain of unary operators is its flat text.
-/
namespace Go.Proofs.YoebxwDoor

/-- The token that a byte stands for. -/
def tokOf (b : Int) : Int := if b % 4 = 0 then 11 else if b % 4 = 1 then 12 else if b % 4 = 2 then 41 else 18
/-- The operator's one byte. -/
def symOf (b : Int) : UInt8 := if b % 4 = 0 then 43 else if b % 4 = 1 then 45 else if b % 4 = 2 then 33 else 94

/-- What the leaf prints. -/
def leafOf (k : Int) (t : ByteArray) : ByteArray := if k % 4 = 3 then ⟨#[117, 110, 100, 101, 102, 105, 110, 101, 100]⟩ else t

/-- The text, level by level. -/
def nest (leaf : List UInt8) : List Int → List UInt8
  | [] => leaf
  | b :: r => 40 :: symOf b :: (nest leaf r ++ [41])

/-- The text's head: one opening bracket and one operator a level. -/
def heads : List Int → List UInt8
  | [] => []
  | b :: r => 40 :: symOf b :: heads r

theorem heads_append (a b : List Int) : heads (a ++ b) = heads a ++ heads b := by
  induction a with
  | nil => rfl
  | cons x r ih => simp [heads, ih]

theorem heads_length (a : List Int) : (heads a).length = 2 * a.length := by
  induction a with
  | nil => rfl
  | cons x r ih => simp [heads, ih]; omega

theorem nest_length (leaf : List UInt8) (a : List Int) : (nest leaf a).length = 3 * a.length + leaf.length := by
  induction a with
  | nil => simp [nest]
  | cons x r ih => simp [nest, ih]; omega

/-- The flat text. -/
def flat (leaf : List UInt8) (ops : List Int) : List UInt8 := heads ops ++ leaf ++ List.replicate ops.length 41

theorem nest_flat (leaf : List UInt8) (ops : List Int) : nest leaf ops = flat leaf ops := by
  induction ops with
  | nil => simp [nest, flat, heads]
  | cons b r ih =>
    simp only [nest, flat, heads, ih, List.length_cons, List.replicate_succ', List.cons_append, List.append_assoc]

end Go.Proofs.YoebxwDoor
