/-
  Plain, no Go: a list that is in order stays in order under a weaker word.
-/
namespace Go.Proofs.YbulkbmsFmt
theorem pw_of {α : Type} {R S : α → α → Prop} {l : List α} (h : l.Pairwise R) (f : ∀ a b, R a b → S a b) : l.Pairwise S :=
  List.pairwise_iff_getElem.2 fun i j hi hj hij => f _ _ (List.pairwise_iff_getElem.1 h i j hi hj hij)
end Go.Proofs.YbulkbmsFmt
