/-
  THE PLAIN FUNCTIONS OF THE SEAT: what scalarNamed and the law's own table answer, on the bytes of a name. No Go in sight.
-/
namespace Go.Proofs.YbulkdfzsDoor.T
set_option linter.unusedVariables false
set_option linter.unusedSimpArgs false

/-- The fifteen scalars' names, the first at number 1. -/
def nm (k : Nat) : List UInt8 := ([[], [110, 117, 108, 108], [98, 111, 111, 108], [105, 110, 116, 56], [105, 110, 116, 49, 54], [105, 110, 116, 51, 50], [105, 110, 116, 54, 52], [117, 105, 110, 116, 56], [117, 105, 110, 116, 49, 54], [117, 105, 110, 116, 51, 50], [117, 105, 110, 116, 54, 52], [102, 108, 111, 97, 116, 51, 50], [102, 108, 111, 97, 116, 54, 52], [115, 116, 114], [97, 110, 121], [110, 101, 118, 101, 114]] : List (List UInt8)).getD k []

/-- What the map of aliases answers. -/
def ali (l : List UInt8) : Int × Bool :=
  if l = [98, 121, 116, 101] then (7, true)
  else if l = [102, 108, 111, 97, 116] then (12, true)
  else if l = [105, 110, 116] then (6, true)
  else if l = [115, 116, 114, 105, 110, 103] then (13, true)
  else if l = [117, 105, 110, 116] then (10, true)
  else (0, false)

/-- What Scalar answers, from number k on, f numbers to go. -/
def scalFrom (l : List UInt8) : Nat → Nat → Int × Bool
  | _, 0 => (0, false)
  | k, f + 1 => if nm k = l then ((k : Int), true) else scalFrom l (k + 1) f
def scal (l : List UInt8) : Int × Bool := scalFrom l 1 15

/-- What scalarNamed answers. -/
def sn (l : List UInt8) : Int × Bool := if (ali l).2 = true then ((ali l).1, true) else scal l

/-- The law's own table, test by test in the text's order. -/
def md (l : List UInt8) : Int × Bool :=
  if l = [110, 117, 108, 108] then (1, true)
  else if l = [98, 111, 111, 108] then (2, true)
  else if l = [105, 110, 116, 56] then (3, true)
  else if l = [105, 110, 116, 49, 54] then (4, true)
  else if l = [105, 110, 116, 51, 50] then (5, true)
  else if l = [105, 110, 116, 54, 52] then (6, true)
  else if l = [105, 110, 116] then (6, true)
  else if l = [117, 105, 110, 116, 56] then (7, true)
  else if l = [98, 121, 116, 101] then (7, true)
  else if l = [117, 105, 110, 116, 49, 54] then (8, true)
  else if l = [117, 105, 110, 116, 51, 50] then (9, true)
  else if l = [117, 105, 110, 116, 54, 52] then (10, true)
  else if l = [117, 105, 110, 116] then (10, true)
  else if l = [102, 108, 111, 97, 116, 51, 50] then (11, true)
  else if l = [102, 108, 111, 97, 116, 54, 52] then (12, true)
  else if l = [102, 108, 111, 97, 116] then (12, true)
  else if l = [115, 116, 114] then (13, true)
  else if l = [115, 116, 114, 105, 110, 103] then (13, true)
  else if l = [97, 110, 121] then (14, true)
  else if l = [110, 101, 118, 101, 114] then (15, true)
  else (0, false)

/-- THE LAW: the two tables answer alike. -/
theorem sn_md (l : List UInt8) : sn l = md l := by
  by_cases h0 : l = [110, 117, 108, 108]
  · subst h0; decide
  by_cases h1 : l = [98, 111, 111, 108]
  · subst h1; decide
  by_cases h2 : l = [105, 110, 116, 56]
  · subst h2; decide
  by_cases h3 : l = [105, 110, 116, 49, 54]
  · subst h3; decide
  by_cases h4 : l = [105, 110, 116, 51, 50]
  · subst h4; decide
  by_cases h5 : l = [105, 110, 116, 54, 52]
  · subst h5; decide
  by_cases h6 : l = [105, 110, 116]
  · subst h6; decide
  by_cases h7 : l = [117, 105, 110, 116, 56]
  · subst h7; decide
  by_cases h8 : l = [98, 121, 116, 101]
  · subst h8; decide
  by_cases h9 : l = [117, 105, 110, 116, 49, 54]
  · subst h9; decide
  by_cases h10 : l = [117, 105, 110, 116, 51, 50]
  · subst h10; decide
  by_cases h11 : l = [117, 105, 110, 116, 54, 52]
  · subst h11; decide
  by_cases h12 : l = [117, 105, 110, 116]
  · subst h12; decide
  by_cases h13 : l = [102, 108, 111, 97, 116, 51, 50]
  · subst h13; decide
  by_cases h14 : l = [102, 108, 111, 97, 116, 54, 52]
  · subst h14; decide
  by_cases h15 : l = [102, 108, 111, 97, 116]
  · subst h15; decide
  by_cases h16 : l = [115, 116, 114]
  · subst h16; decide
  by_cases h17 : l = [115, 116, 114, 105, 110, 103]
  · subst h17; decide
  by_cases h18 : l = [97, 110, 121]
  · subst h18; decide
  by_cases h19 : l = [110, 101, 118, 101, 114]
  · subst h19; decide
  have e1 : ali l = (0, false) := by unfold ali; simp only [h0, h1, h2, h3, h4, h5, h6, h7, h8, h9, h10, h11, h12, h13, h14, h15, h16, h17, h18, h19, if_false]
  have e2 : md l = (0, false) := by unfold md; simp only [h0, h1, h2, h3, h4, h5, h6, h7, h8, h9, h10, h11, h12, h13, h14, h15, h16, h17, h18, h19, if_false]
  have e3 : scal l = (0, false) := by
    simp only [scal, scalFrom, nm, List.getD_cons_succ, List.getD_cons_zero, Nat.reduceAdd]
    rw [if_neg (fun h => h0 h.symm), if_neg (fun h => h1 h.symm), if_neg (fun h => h2 h.symm), if_neg (fun h => h3 h.symm), if_neg (fun h => h4 h.symm), if_neg (fun h => h5 h.symm), if_neg (fun h => h7 h.symm), if_neg (fun h => h9 h.symm), if_neg (fun h => h10 h.symm), if_neg (fun h => h11 h.symm), if_neg (fun h => h13 h.symm), if_neg (fun h => h14 h.symm), if_neg (fun h => h16 h.symm), if_neg (fun h => h18 h.symm), if_neg (fun h => h19 h.symm)]
  unfold sn
  rw [e1, e2, e3]
  simp
end Go.Proofs.YbulkdfzsDoor.T
