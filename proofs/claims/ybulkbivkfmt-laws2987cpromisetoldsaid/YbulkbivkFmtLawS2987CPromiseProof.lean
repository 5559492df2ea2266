/-
  'Rows.LawS2987CPromiseToldSaid' PROVED: the walk (YbulkbivkFmtLaw), the sort's contract (YbulkbivkFmtSort), the told card (YbulkbivkFmtCardOf).
-/
import Derived.Test.YbulkbivkFmtLaw
import Derived.Test.YbulkbivkFmtCardOf
import Derived.Test.YbulkbivkFmtSort
namespace Go.Proofs.YbulkbivkFmt.lawS2987CPromise
open Go.RowKit Go.Extern.Stop Go.Stop Go.Extern
set_option linter.unusedVariables false

set_option maxRecDepth 100000 in
theorem walk_all : LawWalk := by
  intro F0 first extra fromRaw bRaw mode ad len cap E w hF hE hf he hr hb hm
  by_cases hlen : len ≤ 1024
  · exact law_walk sort_spec F0 first extra fromRaw bRaw mode ad len cap E w hF hE hf he hr hb hm hlen
  · have hgt : (1024 : Int) < (len : Int) := by omega
    clear hF hE
    go_enter Ybaf.func3, Ybaf.ntmps3
    go_wp2
    go_ret
    exact ⟨rfl, Below.refl _ _⟩

/-- THE STATEMENT -/
theorem proved : Rows.LawS2987CPromiseToldSaid := card_of walk_all
#print axioms proved
end Go.Proofs.YbulkbivkFmt.lawS2987CPromise
