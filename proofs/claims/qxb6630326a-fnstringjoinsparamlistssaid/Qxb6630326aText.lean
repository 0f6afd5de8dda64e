/-
  THE PLAIN TEXT of a rule: no Go in sight.
-/
import Derived.Lib.Builder
import Derived.Lib.Strings
namespace Go.Proofs.Qxb6630326a.Own

/-- One condition: negated, name, has a glob, glob. -/
structure Pm where
  neg : Bool
  name : ByteArray
  hg : Bool
  glob : ByteArray

def ptext (p : Pm) : List UInt8 := (if p.neg then [33] else []) ++ p.name.data.toList ++ (if p.hg then 61 :: p.glob.data.toList else [])
def more (ps : List Pm) : List UInt8 := ps.flatMap (fun p => 44 :: ptext p)
def opened : List Pm → List UInt8
  | [] => []
  | p :: ps => 40 :: ptext p ++ more ps
def tailT (ps : List Pm) : List UInt8 := if ps.isEmpty then [] else opened ps ++ [41]
def headT (deny : Bool) (action : ByteArray) : List UInt8 := (if deny then [33] else []) ++ action.data.toList
def text (deny : Bool) (action : ByteArray) (ps : List Pm) : List UInt8 := headT deny action ++ tailT ps

/-- how many bytes a condition takes at most -/
def psize (p : Pm) : Nat := p.name.size + p.glob.size + 40
def total (ps : List Pm) : Nat := (ps.map psize).sum

theorem more_append (a b : List Pm) : more (a ++ b) = more a ++ more b := by simp [more]
theorem opened_snoc (l : List Pm) (p : Pm) : opened (l ++ [p]) = opened l ++ (if l.isEmpty then 40 else 44) :: ptext p := by
  cases l with
  | nil => simp [opened, more]
  | cons q l => simp [opened, more]
theorem ptext_le (p : Pm) : (ptext p).length + 38 ≤ psize p := by
  unfold ptext psize
  have h1 : p.name.size = p.name.data.toList.length := Lib.size_eq _
  have h2 : p.glob.size = p.glob.data.toList.length := Lib.size_eq _
  cases p.neg <;> cases p.hg <;> simp <;> omega
theorem total_append (a b : List Pm) : total (a ++ b) = total a + total b := by simp [total]
theorem total_one (p : Pm) : total [p] = psize p := by simp [total]
theorem total_take (ps : List Pm) (k : Nat) : total (ps.take k) ≤ total ps := by
  have h : total (ps.take k ++ ps.drop k) = total ps := by rw [List.take_append_drop]
  rw [total_append] at h
  omega
theorem opened_le (l : List Pm) : (opened l).length ≤ total l := by
  cases l with
  | nil => simp [opened]
  | cons p l =>
    have key : ∀ l : List Pm, (more l).length ≤ total l := by
      intro l
      induction l with
      | nil => simp [more]
      | cons q l ih =>
        have hq := ptext_le q
        have e : total (q :: l) = psize q + total l := by simp [total]
        have e2 : (more (q :: l)).length = 1 + (ptext q).length + (more l).length := by simp [more]; omega
        omega
    have hq := ptext_le p
    have hk := key l
    have e : total (p :: l) = psize p + total l := by simp [total]
    simp only [opened, List.cons_append, List.length_cons, List.length_append]
    omega
end Go.Proofs.Qxb6630326a.Own
