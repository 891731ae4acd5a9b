import PyProof.Rows.All
import Wide.All
import OpenK.AllK
import Wide.FinOn
import Lean
import PySem.Challenge.RW_wk0051_01
set_option Elab.async false
noncomputable section
open PySem PySem.W PyProof.Rows
set_option maxRecDepth 100000
namespace Mine
set_option linter.unusedVariables false
inductive Box (p : Program) : Type | mk
noncomputable def PWv : Program :=
  let_mvar% ?b := ((by
    have b : Box PySem.Challenge.pw_wk0051_01 := .mk
    delta PySem.Challenge.pw_wk0051_01 at b
    have strE0 : Str.ofString "/claim/cut.py" = ⟨⟨[nat_lit 47, nat_lit 99, nat_lit 108, nat_lit 97, nat_lit 105, nat_lit 109, nat_lit 47, nat_lit 99, nat_lit 117, nat_lit 116, nat_lit 46, nat_lit 112, nat_lit 121]⟩⟩ := rfl
    have strE1 : Str.ofString "law" = ⟨⟨[nat_lit 108, nat_lit 97, nat_lit 119]⟩⟩ := rfl
    have strE2 : Str.ofString "_law_run" = ⟨⟨[nat_lit 95, nat_lit 108, nat_lit 97, nat_lit 119, nat_lit 95, nat_lit 114, nat_lit 117, nat_lit 110]⟩⟩ := rfl
    have strE3 : Str.ofString "_law_rings" = ⟨⟨[nat_lit 95, nat_lit 108, nat_lit 97, nat_lit 119, nat_lit 95, nat_lit 114, nat_lit 105, nat_lit 110, nat_lit 103, nat_lit 115]⟩⟩ := rfl
    have strE4 : Str.ofString "_law_set" = ⟨⟨[nat_lit 95, nat_lit 108, nat_lit 97, nat_lit 119, nat_lit 95, nat_lit 115, nat_lit 101, nat_lit 116]⟩⟩ := rfl
    have strE5 : Str.ofString "_law_sides" = ⟨⟨[nat_lit 95, nat_lit 108, nat_lit 97, nat_lit 119, nat_lit 95, nat_lit 115, nat_lit 105, nat_lit 100, nat_lit 101, nat_lit 115]⟩⟩ := rfl
    have strE6 : Str.ofString "_law_read" = ⟨⟨[nat_lit 95, nat_lit 108, nat_lit 97, nat_lit 119, nat_lit 95, nat_lit 114, nat_lit 101, nat_lit 97, nat_lit 100]⟩⟩ := rfl
    have strE7 : Str.ofString "Headers" = ⟨⟨[nat_lit 72, nat_lit 101, nat_lit 97, nat_lit 100, nat_lit 101, nat_lit 114, nat_lit 115]⟩⟩ := rfl
    have strE8 : Str.ofString "_formatparam" = ⟨⟨[nat_lit 95, nat_lit 102, nat_lit 111, nat_lit 114, nat_lit 109, nat_lit 97, nat_lit 116, nat_lit 112, nat_lit 97, nat_lit 114, nat_lit 97, nat_lit 109]⟩⟩ := rfl
    have strE9 : Str.ofString "_value_disallowed_re" = ⟨⟨[nat_lit 95, nat_lit 118, nat_lit 97, nat_lit 108, nat_lit 117, nat_lit 101, nat_lit 95, nat_lit 100, nat_lit 105, nat_lit 115, nat_lit 97, nat_lit 108, nat_lit 108, nat_lit 111, nat_lit 119, nat_lit 101, nat_lit 100, nat_lit 95, nat_lit 114, nat_lit 101]⟩⟩ := rfl
    have strE10 : Str.ofString "_name_disallowed_re" = ⟨⟨[nat_lit 95, nat_lit 110, nat_lit 97, nat_lit 109, nat_lit 101, nat_lit 95, nat_lit 100, nat_lit 105, nat_lit 115, nat_lit 97, nat_lit 108, nat_lit 108, nat_lit 111, nat_lit 119, nat_lit 101, nat_lit 100, nat_lit 95, nat_lit 114, nat_lit 101]⟩⟩ := rfl
    have strE11 : Str.ofString "tspecials" = ⟨⟨[nat_lit 116, nat_lit 115, nat_lit 112, nat_lit 101, nat_lit 99, nat_lit 105, nat_lit 97, nat_lit 108, nat_lit 115]⟩⟩ := rfl
    have strE12 : Str.ofString "map_table_b3" = ⟨⟨[nat_lit 109, nat_lit 97, nat_lit 112, nat_lit 95, nat_lit 116, nat_lit 97, nat_lit 98, nat_lit 108, nat_lit 101, nat_lit 95, nat_lit 98, nat_lit 51]⟩⟩ := rfl
    have strE13 : Str.ofString "b3_exceptions" = ⟨⟨[nat_lit 98, nat_lit 51, nat_lit 95, nat_lit 101, nat_lit 120, nat_lit 99, nat_lit 101, nat_lit 112, nat_lit 116, nat_lit 105, nat_lit 111, nat_lit 110, nat_lit 115]⟩⟩ := rfl
    have strE14 : Str.ofString "in_table_b1" = ⟨⟨[nat_lit 105, nat_lit 110, nat_lit 95, nat_lit 116, nat_lit 97, nat_lit 98, nat_lit 108, nat_lit 101, nat_lit 95, nat_lit 98, nat_lit 49]⟩⟩ := rfl
    have strE15 : Str.ofString "range" = ⟨⟨[nat_lit 114, nat_lit 97, nat_lit 110, nat_lit 103, nat_lit 101]⟩⟩ := rfl
    have strE16 : Str.ofString "set" = ⟨⟨[nat_lit 115, nat_lit 101, nat_lit 116]⟩⟩ := rfl
    have strE17 : Str.ofString "b1_set" = ⟨⟨[nat_lit 98, nat_lit 49, nat_lit 95, nat_lit 115, nat_lit 101, nat_lit 116]⟩⟩ := rfl
    have strE18 : Str.ofString "list" = ⟨⟨[nat_lit 108, nat_lit 105, nat_lit 115, nat_lit 116]⟩⟩ := rfl
    have strE19 : Str.ofString "_Accumulator" = ⟨⟨[nat_lit 95, nat_lit 65, nat_lit 99, nat_lit 99, nat_lit 117, nat_lit 109, nat_lit 117, nat_lit 108, nat_lit 97, nat_lit 116, nat_lit 111, nat_lit 114]⟩⟩ := rfl
    have strE20 : Str.ofString "EMPTYSTRING" = ⟨⟨[nat_lit 69, nat_lit 77, nat_lit 80, nat_lit 84, nat_lit 89, nat_lit 83, nat_lit 84, nat_lit 82, nat_lit 73, nat_lit 78, nat_lit 71]⟩⟩ := rfl
    have strE21 : Str.ofString "__name__" = ⟨⟨[nat_lit 95, nat_lit 95, nat_lit 110, nat_lit 97, nat_lit 109, nat_lit 101, nat_lit 95, nat_lit 95]⟩⟩ := rfl
    have strE22 : Str.ofString "_wall" = ⟨⟨[nat_lit 95, nat_lit 119, nat_lit 97, nat_lit 108, nat_lit 108]⟩⟩ := rfl
    have strE23 : Str.ofString "_sre" = ⟨⟨[nat_lit 95, nat_lit 115, nat_lit 114, nat_lit 101]⟩⟩ := rfl
    have strE24 : Str.ofString "ring" = ⟨⟨[nat_lit 114, nat_lit 105, nat_lit 110, nat_lit 103]⟩⟩ := rfl
    have strE25 : Str.ofString "fast" = ⟨⟨[nat_lit 102, nat_lit 97, nat_lit 115, nat_lit 116]⟩⟩ := rfl
    have strE26 : Str.ofString "count" = ⟨⟨[nat_lit 99, nat_lit 111, nat_lit 117, nat_lit 110, nat_lit 116]⟩⟩ := rfl
    have strE27 : Str.ofString "came" = ⟨⟨[nat_lit 99, nat_lit 97, nat_lit 109, nat_lit 101]⟩⟩ := rfl
    have strE28 : Str.ofString "rings" = ⟨⟨[nat_lit 114, nat_lit 105, nat_lit 110, nat_lit 103, nat_lit 115]⟩⟩ := rfl
    have strE29 : Str.ofString "_" = ⟨⟨[nat_lit 95]⟩⟩ := rfl
    have strE30 : Str.ofString "other" = ⟨⟨[nat_lit 111, nat_lit 116, nat_lit 104, nat_lit 101, nat_lit 114]⟩⟩ := rfl
    have strE31 : Str.ofString "row" = ⟨⟨[nat_lit 114, nat_lit 111, nat_lit 119]⟩⟩ := rfl
    have strE32 : Str.ofString "marks" = ⟨⟨[nat_lit 109, nat_lit 97, nat_lit 114, nat_lit 107, nat_lit 115]⟩⟩ := rfl
    have strE33 : Str.ofString "log" = ⟨⟨[nat_lit 108, nat_lit 111, nat_lit 103]⟩⟩ := rfl
    have strE34 : Str.ofString "size" = ⟨⟨[nat_lit 115, nat_lit 105, nat_lit 122, nat_lit 101]⟩⟩ := rfl
    have strE35 : Str.ofString "order" = ⟨⟨[nat_lit 111, nat_lit 114, nat_lit 100, nat_lit 101, nat_lit 114]⟩⟩ := rfl
    have strE36 : Str.ofString "left" = ⟨⟨[nat_lit 108, nat_lit 101, nat_lit 102, nat_lit 116]⟩⟩ := rfl
    have strE37 : Str.ofString "number" = ⟨⟨[nat_lit 110, nat_lit 117, nat_lit 109, nat_lit 98, nat_lit 101, nat_lit 114]⟩⟩ := rfl
    have strE38 : Str.ofString "numbers" = ⟨⟨[nat_lit 110, nat_lit 117, nat_lit 109, nat_lit 98, nat_lit 101, nat_lit 114, nat_lit 115]⟩⟩ := rfl
    have strE39 : Str.ofString "script" = ⟨⟨[nat_lit 115, nat_lit 99, nat_lit 114, nat_lit 105, nat_lit 112, nat_lit 116]⟩⟩ := rfl
    have strE40 : Str.ofString "len" = ⟨⟨[nat_lit 108, nat_lit 101, nat_lit 110]⟩⟩ := rfl
    have strE41 : Str.ofString ".0" = ⟨⟨[nat_lit 46, nat_lit 48]⟩⟩ := rfl
    have strE42 : Str.ofString "join" = ⟨⟨[nat_lit 106, nat_lit 111, nat_lit 105, nat_lit 110]⟩⟩ := rfl
    have strE43 : Str.ofString "" = ⟨⟨[]⟩⟩ := rfl
    have strE44 : Str.ofString "abcdefgh" = ⟨⟨[nat_lit 97, nat_lit 98, nat_lit 99, nat_lit 100, nat_lit 101, nat_lit 102, nat_lit 103, nat_lit 104]⟩⟩ := rfl
    have strE45 : Str.ofString "=" = ⟨⟨[nat_lit 61]⟩⟩ := rfl
    have strE46 : Str.ofString "pop" = ⟨⟨[nat_lit 112, nat_lit 111, nat_lit 112]⟩⟩ := rfl
    have strE47 : Str.ofString "mark" = ⟨⟨[nat_lit 109, nat_lit 97, nat_lit 114, nat_lit 107]⟩⟩ := rfl
    have strE48 : Str.ofString "one" = ⟨⟨[nat_lit 111, nat_lit 110, nat_lit 101]⟩⟩ := rfl
    have strE49 : Str.ofString "ends" = ⟨⟨[nat_lit 101, nat_lit 110, nat_lit 100, nat_lit 115]⟩⟩ := rfl
    have strE50 : Str.ofString "lower" = ⟨⟨[nat_lit 108, nat_lit 111, nat_lit 119, nat_lit 101, nat_lit 114]⟩⟩ := rfl
    have strE51 : Str.ofString "upper" = ⟨⟨[nat_lit 117, nat_lit 112, nat_lit 112, nat_lit 101, nat_lit 114]⟩⟩ := rfl
    have strE52 : Str.ofString "pair" = ⟨⟨[nat_lit 112, nat_lit 97, nat_lit 105, nat_lit 114]⟩⟩ := rfl
    have strE53 : Str.ofString "pairs" = ⟨⟨[nat_lit 112, nat_lit 97, nat_lit 105, nat_lit 114, nat_lit 115]⟩⟩ := rfl
    have strE54 : Str.ofString "k" = ⟨⟨[nat_lit 107]⟩⟩ := rfl
    have strE55 : Str.ofString "half" = ⟨⟨[nat_lit 104, nat_lit 97, nat_lit 108, nat_lit 102]⟩⟩ := rfl
    have strE56 : Str.ofString "zip" = ⟨⟨[nat_lit 122, nat_lit 105, nat_lit 112]⟩⟩ := rfl
    have strE57 : Str.ofString "mate" = ⟨⟨[nat_lit 109, nat_lit 97, nat_lit 116, nat_lit 101]⟩⟩ := rfl
    have strE58 : Str.ofString "line" = ⟨⟨[nat_lit 108, nat_lit 105, nat_lit 110, nat_lit 101]⟩⟩ := rfl
    have strE59 : Str.ofString "name" = ⟨⟨[nat_lit 110, nat_lit 97, nat_lit 109, nat_lit 101]⟩⟩ := rfl
    have strE60 : Str.ofString "extend" = ⟨⟨[nat_lit 101, nat_lit 120, nat_lit 116, nat_lit 101, nat_lit 110, nat_lit 100]⟩⟩ := rfl
    have strE61 : Str.ofString "index" = ⟨⟨[nat_lit 105, nat_lit 110, nat_lit 100, nat_lit 101, nat_lit 120]⟩⟩ := rfl
    have strE62 : Str.ofString "inner" = ⟨⟨[nat_lit 105, nat_lit 110, nat_lit 110, nat_lit 101, nat_lit 114]⟩⟩ := rfl
    have strE63 : Str.ofString "lines" = ⟨⟨[nat_lit 108, nat_lit 105, nat_lit 110, nat_lit 101, nat_lit 115]⟩⟩ := rfl
    have strE64 : Str.ofString "side" = ⟨⟨[nat_lit 115, nat_lit 105, nat_lit 100, nat_lit 101]⟩⟩ := rfl
    have strE65 : Str.ofString "sides" = ⟨⟨[nat_lit 115, nat_lit 105, nat_lit 100, nat_lit 101, nat_lit 115]⟩⟩ := rfl
    have strE66 : Str.ofString "get" = ⟨⟨[nat_lit 103, nat_lit 101, nat_lit 116]⟩⟩ := rfl
    have strE67 : Str.ofString "=x" = ⟨⟨[nat_lit 61, nat_lit 120]⟩⟩ := rfl
    have strE68 : Str.ofString "keys" = ⟨⟨[nat_lit 107, nat_lit 101, nat_lit 121, nat_lit 115]⟩⟩ := rfl
    have strE69 : Str.ofString "append" = ⟨⟨[nat_lit 97, nat_lit 112, nat_lit 112, nat_lit 101, nat_lit 110, nat_lit 100]⟩⟩ := rfl
    have strE70 : Str.ofString "x" = ⟨⟨[nat_lit 120]⟩⟩ := rfl
    have strE71 : Str.ofString "pile" = ⟨⟨[nat_lit 112, nat_lit 105, nat_lit 108, nat_lit 101]⟩⟩ := rfl
    have strE72 : Str.ofString "push" = ⟨⟨[nat_lit 112, nat_lit 117, nat_lit 115, nat_lit 104]⟩⟩ := rfl
    have strE73 : Str.ofString "add_header" = ⟨⟨[nat_lit 97, nat_lit 100, nat_lit 100, nat_lit 95, nat_lit 104, nat_lit 101, nat_lit 97, nat_lit 100, nat_lit 101, nat_lit 114]⟩⟩ := rfl
    have strE74 : Str.ofString "sign" = ⟨⟨[nat_lit 115, nat_lit 105, nat_lit 103, nat_lit 110]⟩⟩ := rfl
    have strE75 : Str.ofString "letter" = ⟨⟨[nat_lit 108, nat_lit 101, nat_lit 116, nat_lit 116, nat_lit 101, nat_lit 114]⟩⟩ := rfl
    have strE76 : Str.ofString "signs" = ⟨⟨[nat_lit 115, nat_lit 105, nat_lit 103, nat_lit 110, nat_lit 115]⟩⟩ := rfl
    have strE77 : Str.ofString "v" = ⟨⟨[nat_lit 118]⟩⟩ := rfl
    have strE78 : Str.ofString "ord" = ⟨⟨[nat_lit 111, nat_lit 114, nat_lit 100]⟩⟩ := rfl
    have strE79 : Str.ofString "chr" = ⟨⟨[nat_lit 99, nat_lit 104, nat_lit 114]⟩⟩ := rfl
    have strE80 : Str.ofString "enumerate" = ⟨⟨[nat_lit 101, nat_lit 110, nat_lit 117, nat_lit 109, nat_lit 101, nat_lit 114, nat_lit 97, nat_lit 116, nat_lit 101]⟩⟩ := rfl
    have strE81 : Str.ofString "­" = ⟨⟨[nat_lit 173]⟩⟩ := rfl
    have strE82 : Str.ofString "law_wk0051_01" = ⟨⟨[nat_lit 108, nat_lit 97, nat_lit 119, nat_lit 95, nat_lit 119, nat_lit 107, nat_lit 48, nat_lit 48, nat_lit 53, nat_lit 49, nat_lit 95, nat_lit 48, nat_lit 49]⟩⟩ := rfl
    have strE83 : Str.ofString "_headers" = ⟨⟨[nat_lit 95, nat_lit 104, nat_lit 101, nat_lit 97, nat_lit 100, nat_lit 101, nat_lit 114, nat_lit 115]⟩⟩ := rfl
    have strE84 : Str.ofString "setdefault" = ⟨⟨[nat_lit 115, nat_lit 101, nat_lit 116, nat_lit 100, nat_lit 101, nat_lit 102, nat_lit 97, nat_lit 117, nat_lit 108, nat_lit 116]⟩⟩ := rfl
    have strE85 : Str.ofString "__bytes__" = ⟨⟨[nat_lit 95, nat_lit 95, nat_lit 98, nat_lit 121, nat_lit 116, nat_lit 101, nat_lit 115, nat_lit 95, nat_lit 95]⟩⟩ := rfl
    have strE86 : Str.ofString "__str__" = ⟨⟨[nat_lit 95, nat_lit 95, nat_lit 115, nat_lit 116, nat_lit 114, nat_lit 95, nat_lit 95]⟩⟩ := rfl
    have strE87 : Str.ofString "__repr__" = ⟨⟨[nat_lit 95, nat_lit 95, nat_lit 114, nat_lit 101, nat_lit 112, nat_lit 114, nat_lit 95, nat_lit 95]⟩⟩ := rfl
    have strE88 : Str.ofString "items" = ⟨⟨[nat_lit 105, nat_lit 116, nat_lit 101, nat_lit 109, nat_lit 115]⟩⟩ := rfl
    have strE89 : Str.ofString "values" = ⟨⟨[nat_lit 118, nat_lit 97, nat_lit 108, nat_lit 117, nat_lit 101, nat_lit 115]⟩⟩ := rfl
    have strE90 : Str.ofString "get_all" = ⟨⟨[nat_lit 103, nat_lit 101, nat_lit 116, nat_lit 95, nat_lit 97, nat_lit 108, nat_lit 108]⟩⟩ := rfl
    have strE91 : Str.ofString "__contains__" = ⟨⟨[nat_lit 95, nat_lit 95, nat_lit 99, nat_lit 111, nat_lit 110, nat_lit 116, nat_lit 97, nat_lit 105, nat_lit 110, nat_lit 115, nat_lit 95, nat_lit 95]⟩⟩ := rfl
    have strE92 : Str.ofString "__getitem__" = ⟨⟨[nat_lit 95, nat_lit 95, nat_lit 103, nat_lit 101, nat_lit 116, nat_lit 105, nat_lit 116, nat_lit 101, nat_lit 109, nat_lit 95, nat_lit 95]⟩⟩ := rfl
    have strE93 : Str.ofString "__delitem__" = ⟨⟨[nat_lit 95, nat_lit 95, nat_lit 100, nat_lit 101, nat_lit 108, nat_lit 105, nat_lit 116, nat_lit 101, nat_lit 109, nat_lit 95, nat_lit 95]⟩⟩ := rfl
    have strE94 : Str.ofString "__setitem__" = ⟨⟨[nat_lit 95, nat_lit 95, nat_lit 115, nat_lit 101, nat_lit 116, nat_lit 105, nat_lit 116, nat_lit 101, nat_lit 109, nat_lit 95, nat_lit 95]⟩⟩ := rfl
    have strE95 : Str.ofString "__len__" = ⟨⟨[nat_lit 95, nat_lit 95, nat_lit 108, nat_lit 101, nat_lit 110, nat_lit 95, nat_lit 95]⟩⟩ := rfl
    have strE96 : Str.ofString "_convert_string_type" = ⟨⟨[nat_lit 95, nat_lit 99, nat_lit 111, nat_lit 110, nat_lit 118, nat_lit 101, nat_lit 114, nat_lit 116, nat_lit 95, nat_lit 115, nat_lit 116, nat_lit 114, nat_lit 105, nat_lit 110, nat_lit 103, nat_lit 95, nat_lit 116, nat_lit 121, nat_lit 112, nat_lit 101]⟩⟩ := rfl
    have strE97 : Str.ofString "__init__" = ⟨⟨[nat_lit 95, nat_lit 95, nat_lit 105, nat_lit 110, nat_lit 105, nat_lit 116, nat_lit 95, nat_lit 95]⟩⟩ := rfl
    have strE98 : Str.ofString "parts" = ⟨⟨[nat_lit 112, nat_lit 97, nat_lit 114, nat_lit 116, nat_lit 115]⟩⟩ := rfl
    have strE99 : Str.ofString "_params" = ⟨⟨[nat_lit 95, nat_lit 112, nat_lit 97, nat_lit 114, nat_lit 97, nat_lit 109, nat_lit 115]⟩⟩ := rfl
    have strE100 : Str.ofString "_value" = ⟨⟨[nat_lit 95, nat_lit 118, nat_lit 97, nat_lit 108, nat_lit 117, nat_lit 101]⟩⟩ := rfl
    have strE101 : Str.ofString "_name" = ⟨⟨[nat_lit 95, nat_lit 110, nat_lit 97, nat_lit 109, nat_lit 101]⟩⟩ := rfl
    have strE102 : Str.ofString "self" = ⟨⟨[nat_lit 115, nat_lit 101, nat_lit 108, nat_lit 102]⟩⟩ := rfl
    have strE103 : Str.ofString "; " = ⟨⟨[nat_lit 59, nat_lit 32]⟩⟩ := rfl
    have strE104 : Str.ofString "-" = ⟨⟨[nat_lit 45]⟩⟩ := rfl
    have strE105 : Str.ofString "replace" = ⟨⟨[nat_lit 114, nat_lit 101, nat_lit 112, nat_lit 108, nat_lit 97, nat_lit 99, nat_lit 101]⟩⟩ := rfl
    have strE106 : Str.ofString "value" = ⟨⟨[nat_lit 118, nat_lit 97, nat_lit 108, nat_lit 117, nat_lit 101]⟩⟩ := rfl
    have strE107 : Str.ofString "str" = ⟨⟨[nat_lit 115, nat_lit 116, nat_lit 114]⟩⟩ := rfl
    have strE108 : Str.ofString "iso-8859-1" = ⟨⟨[nat_lit 105, nat_lit 115, nat_lit 111, nat_lit 45, nat_lit 56, nat_lit 56, nat_lit 53, nat_lit 57, nat_lit 45, nat_lit 49]⟩⟩ := rfl
    have strE109 : Str.ofString "encode" = ⟨⟨[nat_lit 101, nat_lit 110, nat_lit 99, nat_lit 111, nat_lit 100, nat_lit 101]⟩⟩ := rfl
    have strE110 : Str.ofString "kv" = ⟨⟨[nat_lit 107, nat_lit 118]⟩⟩ := rfl
    have strE111 : Str.ofString "%s: %s" = ⟨⟨[nat_lit 37, nat_lit 115, nat_lit 58, nat_lit 32, nat_lit 37, nat_lit 115]⟩⟩ := rfl
    have strE112 : Str.ofString "\r\n" = ⟨⟨[nat_lit 13, nat_lit 10]⟩⟩ := rfl
    have strE113 : Str.ofString ")" = ⟨⟨[nat_lit 41]⟩⟩ := rfl
    have strE114 : Str.ofString "(" = ⟨⟨[nat_lit 40]⟩⟩ := rfl
    have strE115 : Str.ofString "__class__" = ⟨⟨[nat_lit 95, nat_lit 95, nat_lit 99, nat_lit 108, nat_lit 97, nat_lit 115, nat_lit 115, nat_lit 95, nat_lit 95]⟩⟩ := rfl
    have strE116 : Str.ofString "default" = ⟨⟨[nat_lit 100, nat_lit 101, nat_lit 102, nat_lit 97, nat_lit 117, nat_lit 108, nat_lit 116]⟩⟩ := rfl
    have strE117 : Str.ofString "val" = ⟨⟨[nat_lit 118, nat_lit 97, nat_lit 108]⟩⟩ := rfl
    have strE118 : Str.ofString "repr" = ⟨⟨[nat_lit 114, nat_lit 101, nat_lit 112, nat_lit 114]⟩⟩ := rfl
    have strE119 : Str.ofString "AssertionError" = ⟨⟨[nat_lit 65, nat_lit 115, nat_lit 115, nat_lit 101, nat_lit 114, nat_lit 116, nat_lit 105, nat_lit 111, nat_lit 110, nat_lit 69, nat_lit 114, nat_lit 114, nat_lit 111, nat_lit 114]⟩⟩ := rfl
    have strE120 : Str.ofString "ValueError" = ⟨⟨[nat_lit 86, nat_lit 97, nat_lit 108, nat_lit 117, nat_lit 101, nat_lit 69, nat_lit 114, nat_lit 114, nat_lit 111, nat_lit 114]⟩⟩ := rfl
    have strE121 : Str.ofString "type" = ⟨⟨[nat_lit 116, nat_lit 121, nat_lit 112, nat_lit 101]⟩⟩ := rfl
    have strE122 : Str.ofString "regex" = ⟨⟨[nat_lit 114, nat_lit 101, nat_lit 103, nat_lit 101, nat_lit 120]⟩⟩ := rfl
    have strE123 : Str.ofString "format" = ⟨⟨[nat_lit 102, nat_lit 111, nat_lit 114, nat_lit 109, nat_lit 97, nat_lit 116]⟩⟩ := rfl
    have strE124 : Str.ofString "Header names/values must be of type str (got {0})" = ⟨⟨[nat_lit 72, nat_lit 101, nat_lit 97, nat_lit 100, nat_lit 101, nat_lit 114, nat_lit 32, nat_lit 110, nat_lit 97, nat_lit 109, nat_lit 101, nat_lit 115, nat_lit 47, nat_lit 118, nat_lit 97, nat_lit 108, nat_lit 117, nat_lit 101, nat_lit 115, nat_lit 32, nat_lit 109, nat_lit 117, nat_lit 115, nat_lit 116, nat_lit 32, nat_lit 98, nat_lit 101, nat_lit 32, nat_lit 111, nat_lit 102, nat_lit 32, nat_lit 116, nat_lit 121, nat_lit 112, nat_lit 101, nat_lit 32, nat_lit 115, nat_lit 116, nat_lit 114, nat_lit 32, nat_lit 40, nat_lit 103, nat_lit 111, nat_lit 116, nat_lit 32, nat_lit 123, nat_lit 48, nat_lit 125, nat_lit 41]⟩⟩ := rfl
    have strE125 : Str.ofString "Control characters not allowed in headers" = ⟨⟨[nat_lit 67, nat_lit 111, nat_lit 110, nat_lit 116, nat_lit 114, nat_lit 111, nat_lit 108, nat_lit 32, nat_lit 99, nat_lit 104, nat_lit 97, nat_lit 114, nat_lit 97, nat_lit 99, nat_lit 116, nat_lit 101, nat_lit 114, nat_lit 115, nat_lit 32, nat_lit 110, nat_lit 111, nat_lit 116, nat_lit 32, nat_lit 97, nat_lit 108, nat_lit 108, nat_lit 111, nat_lit 119, nat_lit 101, nat_lit 100, nat_lit 32, nat_lit 105, nat_lit 110, nat_lit 32, nat_lit 104, nat_lit 101, nat_lit 97, nat_lit 100, nat_lit 101, nat_lit 114, nat_lit 115]⟩⟩ := rfl
    have strE126 : Str.ofString "search" = ⟨⟨[nat_lit 115, nat_lit 101, nat_lit 97, nat_lit 114, nat_lit 99, nat_lit 104]⟩⟩ := rfl
    have strE127 : Str.ofString "__debug__" = ⟨⟨[nat_lit 95, nat_lit 95, nat_lit 100, nat_lit 101, nat_lit 98, nat_lit 117, nat_lit 103, nat_lit 95, nat_lit 95]⟩⟩ := rfl
    have strE128 : Str.ofString "TypeError" = ⟨⟨[nat_lit 84, nat_lit 121, nat_lit 112, nat_lit 101, nat_lit 69, nat_lit 114, nat_lit 114, nat_lit 111, nat_lit 114]⟩⟩ := rfl
    have strE129 : Str.ofString "headers" = ⟨⟨[nat_lit 104, nat_lit 101, nat_lit 97, nat_lit 100, nat_lit 101, nat_lit 114, nat_lit 115]⟩⟩ := rfl
    have strE130 : Str.ofString "Headers must be a list of name/value tuples" = ⟨⟨[nat_lit 72, nat_lit 101, nat_lit 97, nat_lit 100, nat_lit 101, nat_lit 114, nat_lit 115, nat_lit 32, nat_lit 109, nat_lit 117, nat_lit 115, nat_lit 116, nat_lit 32, nat_lit 98, nat_lit 101, nat_lit 32, nat_lit 97, nat_lit 32, nat_lit 108, nat_lit 105, nat_lit 115, nat_lit 116, nat_lit 32, nat_lit 111, nat_lit 102, nat_lit 32, nat_lit 110, nat_lit 97, nat_lit 109, nat_lit 101, nat_lit 47, nat_lit 118, nat_lit 97, nat_lit 108, nat_lit 117, nat_lit 101, nat_lit 32, nat_lit 116, nat_lit 117, nat_lit 112, nat_lit 108, nat_lit 101, nat_lit 115]⟩⟩ := rfl
    have strE131 : Str.ofString "quote" = ⟨⟨[nat_lit 113, nat_lit 117, nat_lit 111, nat_lit 116, nat_lit 101]⟩⟩ := rfl
    have strE132 : Str.ofString "param" = ⟨⟨[nat_lit 112, nat_lit 97, nat_lit 114, nat_lit 97, nat_lit 109]⟩⟩ := rfl
    have strE133 : Str.ofString "\"" = ⟨⟨[nat_lit 34]⟩⟩ := rfl
    have strE134 : Str.ofString "=\"" = ⟨⟨[nat_lit 61, nat_lit 34]⟩⟩ := rfl
    have strE135 : Str.ofString "\\\"" = ⟨⟨[nat_lit 92, nat_lit 34]⟩⟩ := rfl
    have strE136 : Str.ofString "\\\\" = ⟨⟨[nat_lit 92, nat_lit 92]⟩⟩ := rfl
    have strE137 : Str.ofString "\\" = ⟨⟨[nat_lit 92]⟩⟩ := rfl
    have strE138 : Str.ofString "[\\x00-\\x08\\x0A-\\x1F\\x7F]" = ⟨⟨[nat_lit 91, nat_lit 92, nat_lit 120, nat_lit 48, nat_lit 48, nat_lit 45, nat_lit 92, nat_lit 120, nat_lit 48, nat_lit 56, nat_lit 92, nat_lit 120, nat_lit 48, nat_lit 65, nat_lit 45, nat_lit 92, nat_lit 120, nat_lit 49, nat_lit 70, nat_lit 92, nat_lit 120, nat_lit 55, nat_lit 70, nat_lit 93]⟩⟩ := rfl
    have strE139 : Str.ofString "compile" = ⟨⟨[nat_lit 99, nat_lit 111, nat_lit 109, nat_lit 112, nat_lit 105, nat_lit 108, nat_lit 101]⟩⟩ := rfl
    have strE140 : Str.ofString "[\\x00-\\x1F\\x7F]" = ⟨⟨[nat_lit 91, nat_lit 92, nat_lit 120, nat_lit 48, nat_lit 48, nat_lit 45, nat_lit 92, nat_lit 120, nat_lit 49, nat_lit 70, nat_lit 92, nat_lit 120, nat_lit 55, nat_lit 70, nat_lit 93]⟩⟩ := rfl
    have strE141 : Str.ofString "[ \\(\\)<>@,;:\\\\\"/\\[\\]\\?=]" = ⟨⟨[nat_lit 91, nat_lit 32, nat_lit 92, nat_lit 40, nat_lit 92, nat_lit 41, nat_lit 60, nat_lit 62, nat_lit 64, nat_lit 44, nat_lit 59, nat_lit 58, nat_lit 92, nat_lit 92, nat_lit 34, nat_lit 47, nat_lit 92, nat_lit 91, nat_lit 92, nat_lit 93, nat_lit 92, nat_lit 63, nat_lit 61, nat_lit 93]⟩⟩ := rfl
    have strE142 : Str.ofString "cpy313.wsgiref.headers" = ⟨⟨[nat_lit 99, nat_lit 112, nat_lit 121, nat_lit 51, nat_lit 49, nat_lit 51, nat_lit 46, nat_lit 119, nat_lit 115, nat_lit 103, nat_lit 105, nat_lit 114, nat_lit 101, nat_lit 102, nat_lit 46, nat_lit 104, nat_lit 101, nat_lit 97, nat_lit 100, nat_lit 101, nat_lit 114, nat_lit 115]⟩⟩ := rfl
    have strE143 : Str.ofString "r" = ⟨⟨[nat_lit 114]⟩⟩ := rfl
    have strE144 : Str.ofString "code" = ⟨⟨[nat_lit 99, nat_lit 111, nat_lit 100, nat_lit 101]⟩⟩ := rfl
    have strE145 : Str.ofString "s" = ⟨⟨[nat_lit 115]⟩⟩ := rfl
    have strE146 : Str.ofString "ʼn" = ⟨⟨[nat_lit 700, nat_lit 110]⟩⟩ := rfl
    have strE147 : Str.ofString "i̇" = ⟨⟨[nat_lit 105, nat_lit 775]⟩⟩ := rfl
    have strE148 : Str.ofString "ss" = ⟨⟨[nat_lit 115, nat_lit 115]⟩⟩ := rfl
    have strE149 : Str.ofString "μ" = ⟨⟨[nat_lit 956]⟩⟩ := rfl
    have strE150 : Str.ofString "ΰ" = ⟨⟨[nat_lit 965, nat_lit 776, nat_lit 769]⟩⟩ := rfl
    have strE151 : Str.ofString "ΐ" = ⟨⟨[nat_lit 953, nat_lit 776, nat_lit 769]⟩⟩ := rfl
    have strE152 : Str.ofString " ι" = ⟨⟨[nat_lit 32, nat_lit 953]⟩⟩ := rfl
    have strE153 : Str.ofString "ι" = ⟨⟨[nat_lit 953]⟩⟩ := rfl
    have strE154 : Str.ofString "ǰ" = ⟨⟨[nat_lit 106, nat_lit 780]⟩⟩ := rfl
    have strE155 : Str.ofString "ύ" = ⟨⟨[nat_lit 973]⟩⟩ := rfl
    have strE156 : Str.ofString "υ" = ⟨⟨[nat_lit 965]⟩⟩ := rfl
    have strE157 : Str.ofString "θ" = ⟨⟨[nat_lit 952]⟩⟩ := rfl
    have strE158 : Str.ofString "β" = ⟨⟨[nat_lit 946]⟩⟩ := rfl
    have strE159 : Str.ofString "σ" = ⟨⟨[nat_lit 963]⟩⟩ := rfl
    have strE160 : Str.ofString "ρ" = ⟨⟨[nat_lit 961]⟩⟩ := rfl
    have strE161 : Str.ofString "κ" = ⟨⟨[nat_lit 954]⟩⟩ := rfl
    have strE162 : Str.ofString "π" = ⟨⟨[nat_lit 960]⟩⟩ := rfl
    have strE163 : Str.ofString "φ" = ⟨⟨[nat_lit 966]⟩⟩ := rfl
    have strE164 : Str.ofString "ϋ" = ⟨⟨[nat_lit 971]⟩⟩ := rfl
    have strE165 : Str.ofString "ẗ" = ⟨⟨[nat_lit 116, nat_lit 776]⟩⟩ := rfl
    have strE166 : Str.ofString "ẖ" = ⟨⟨[nat_lit 104, nat_lit 817]⟩⟩ := rfl
    have strE167 : Str.ofString "եւ" = ⟨⟨[nat_lit 1381, nat_lit 1410]⟩⟩ := rfl
    have strE168 : Str.ofString "ε" = ⟨⟨[nat_lit 949]⟩⟩ := rfl
    have strE169 : Str.ofString "ὐ" = ⟨⟨[nat_lit 965, nat_lit 787]⟩⟩ := rfl
    have strE170 : Str.ofString "ṡ" = ⟨⟨[nat_lit 7777]⟩⟩ := rfl
    have strE171 : Str.ofString "aʾ" = ⟨⟨[nat_lit 97, nat_lit 702]⟩⟩ := rfl
    have strE172 : Str.ofString "ẙ" = ⟨⟨[nat_lit 121, nat_lit 778]⟩⟩ := rfl
    have strE173 : Str.ofString "ẘ" = ⟨⟨[nat_lit 119, nat_lit 778]⟩⟩ := rfl
    have strE174 : Str.ofString "ἁι" = ⟨⟨[nat_lit 7937, nat_lit 953]⟩⟩ := rfl
    have strE175 : Str.ofString "ἀι" = ⟨⟨[nat_lit 7936, nat_lit 953]⟩⟩ := rfl
    have strE176 : Str.ofString "ὖ" = ⟨⟨[nat_lit 965, nat_lit 787, nat_lit 834]⟩⟩ := rfl
    have strE177 : Str.ofString "ὔ" = ⟨⟨[nat_lit 965, nat_lit 787, nat_lit 769]⟩⟩ := rfl
    have strE178 : Str.ofString "ὒ" = ⟨⟨[nat_lit 965, nat_lit 787, nat_lit 768]⟩⟩ := rfl
    have strE179 : Str.ofString "ἆι" = ⟨⟨[nat_lit 7942, nat_lit 953]⟩⟩ := rfl
    have strE180 : Str.ofString "ἅι" = ⟨⟨[nat_lit 7941, nat_lit 953]⟩⟩ := rfl
    have strE181 : Str.ofString "ἄι" = ⟨⟨[nat_lit 7940, nat_lit 953]⟩⟩ := rfl
    have strE182 : Str.ofString "ἃι" = ⟨⟨[nat_lit 7939, nat_lit 953]⟩⟩ := rfl
    have strE183 : Str.ofString "ἂι" = ⟨⟨[nat_lit 7938, nat_lit 953]⟩⟩ := rfl
    have strE184 : Str.ofString "ἇι" = ⟨⟨[nat_lit 7943, nat_lit 953]⟩⟩ := rfl
    have strE185 : Str.ofString "ἠι" = ⟨⟨[nat_lit 7968, nat_lit 953]⟩⟩ := rfl
    have strE186 : Str.ofString "ἥι" = ⟨⟨[nat_lit 7973, nat_lit 953]⟩⟩ := rfl
    have strE187 : Str.ofString "ἤι" = ⟨⟨[nat_lit 7972, nat_lit 953]⟩⟩ := rfl
    have strE188 : Str.ofString "ἣι" = ⟨⟨[nat_lit 7971, nat_lit 953]⟩⟩ := rfl
    have strE189 : Str.ofString "ἢι" = ⟨⟨[nat_lit 7970, nat_lit 953]⟩⟩ := rfl
    have strE190 : Str.ofString "ἡι" = ⟨⟨[nat_lit 7969, nat_lit 953]⟩⟩ := rfl
    have strE191 : Str.ofString "ἧι" = ⟨⟨[nat_lit 7975, nat_lit 953]⟩⟩ := rfl
    have strE192 : Str.ofString "ἦι" = ⟨⟨[nat_lit 7974, nat_lit 953]⟩⟩ := rfl
    have strE193 : Str.ofString "ὤι" = ⟨⟨[nat_lit 8036, nat_lit 953]⟩⟩ := rfl
    have strE194 : Str.ofString "ὣι" = ⟨⟨[nat_lit 8035, nat_lit 953]⟩⟩ := rfl
    have strE195 : Str.ofString "ὢι" = ⟨⟨[nat_lit 8034, nat_lit 953]⟩⟩ := rfl
    have strE196 : Str.ofString "ὡι" = ⟨⟨[nat_lit 8033, nat_lit 953]⟩⟩ := rfl
    have strE197 : Str.ofString "ὠι" = ⟨⟨[nat_lit 8032, nat_lit 953]⟩⟩ := rfl
    have strE198 : Str.ofString "ὧι" = ⟨⟨[nat_lit 8039, nat_lit 953]⟩⟩ := rfl
    have strE199 : Str.ofString "ὦι" = ⟨⟨[nat_lit 8038, nat_lit 953]⟩⟩ := rfl
    have strE200 : Str.ofString "ὥι" = ⟨⟨[nat_lit 8037, nat_lit 953]⟩⟩ := rfl
    have strE201 : Str.ofString "ᾶι" = ⟨⟨[nat_lit 945, nat_lit 834, nat_lit 953]⟩⟩ := rfl
    have strE202 : Str.ofString "ᾶ" = ⟨⟨[nat_lit 945, nat_lit 834]⟩⟩ := rfl
    have strE203 : Str.ofString "άι" = ⟨⟨[nat_lit 940, nat_lit 953]⟩⟩ := rfl
    have strE204 : Str.ofString "αι" = ⟨⟨[nat_lit 945, nat_lit 953]⟩⟩ := rfl
    have strE205 : Str.ofString "ὰι" = ⟨⟨[nat_lit 8048, nat_lit 953]⟩⟩ := rfl
    have strE206 : Str.ofString "ήι" = ⟨⟨[nat_lit 942, nat_lit 953]⟩⟩ := rfl
    have strE207 : Str.ofString "ηι" = ⟨⟨[nat_lit 951, nat_lit 953]⟩⟩ := rfl
    have strE208 : Str.ofString "ὴι" = ⟨⟨[nat_lit 8052, nat_lit 953]⟩⟩ := rfl
    have strE209 : Str.ofString "ῒ" = ⟨⟨[nat_lit 953, nat_lit 776, nat_lit 768]⟩⟩ := rfl
    have strE210 : Str.ofString "ῆι" = ⟨⟨[nat_lit 951, nat_lit 834, nat_lit 953]⟩⟩ := rfl
    have strE211 : Str.ofString "ῆ" = ⟨⟨[nat_lit 951, nat_lit 834]⟩⟩ := rfl
    have strE212 : Str.ofString "ῤ" = ⟨⟨[nat_lit 961, nat_lit 787]⟩⟩ := rfl
    have strE213 : Str.ofString "ῢ" = ⟨⟨[nat_lit 965, nat_lit 776, nat_lit 768]⟩⟩ := rfl
    have strE214 : Str.ofString "ῗ" = ⟨⟨[nat_lit 953, nat_lit 776, nat_lit 834]⟩⟩ := rfl
    have strE215 : Str.ofString "ῖ" = ⟨⟨[nat_lit 953, nat_lit 834]⟩⟩ := rfl
    have strE216 : Str.ofString "ώι" = ⟨⟨[nat_lit 974, nat_lit 953]⟩⟩ := rfl
    have strE217 : Str.ofString "ωι" = ⟨⟨[nat_lit 969, nat_lit 953]⟩⟩ := rfl
    have strE218 : Str.ofString "ὼι" = ⟨⟨[nat_lit 8060, nat_lit 953]⟩⟩ := rfl
    have strE219 : Str.ofString "ῧ" = ⟨⟨[nat_lit 965, nat_lit 776, nat_lit 834]⟩⟩ := rfl
    have strE220 : Str.ofString "ῦ" = ⟨⟨[nat_lit 965, nat_lit 834]⟩⟩ := rfl
    have strE221 : Str.ofString "c" = ⟨⟨[nat_lit 99]⟩⟩ := rfl
    have strE222 : Str.ofString "rs" = ⟨⟨[nat_lit 114, nat_lit 115]⟩⟩ := rfl
    have strE223 : Str.ofString "ῶι" = ⟨⟨[nat_lit 969, nat_lit 834, nat_lit 953]⟩⟩ := rfl
    have strE224 : Str.ofString "ῶ" = ⟨⟨[nat_lit 969, nat_lit 834]⟩⟩ := rfl
    have strE225 : Str.ofString "h" = ⟨⟨[nat_lit 104]⟩⟩ := rfl
    have strE226 : Str.ofString "°f" = ⟨⟨[nat_lit 176, nat_lit 102]⟩⟩ := rfl
    have strE227 : Str.ofString "ɛ" = ⟨⟨[nat_lit 603]⟩⟩ := rfl
    have strE228 : Str.ofString "°c" = ⟨⟨[nat_lit 176, nat_lit 99]⟩⟩ := rfl
    have strE229 : Str.ofString "n" = ⟨⟨[nat_lit 110]⟩⟩ := rfl
    have strE230 : Str.ofString "l" = ⟨⟨[nat_lit 108]⟩⟩ := rfl
    have strE231 : Str.ofString "i" = ⟨⟨[nat_lit 105]⟩⟩ := rfl
    have strE232 : Str.ofString "q" = ⟨⟨[nat_lit 113]⟩⟩ := rfl
    have strE233 : Str.ofString "p" = ⟨⟨[nat_lit 112]⟩⟩ := rfl
    have strE234 : Str.ofString "no" = ⟨⟨[nat_lit 110, nat_lit 111]⟩⟩ := rfl
    have strE235 : Str.ofString "z" = ⟨⟨[nat_lit 122]⟩⟩ := rfl
    have strE236 : Str.ofString "tm" = ⟨⟨[nat_lit 116, nat_lit 109]⟩⟩ := rfl
    have strE237 : Str.ofString "tel" = ⟨⟨[nat_lit 116, nat_lit 101, nat_lit 108]⟩⟩ := rfl
    have strE238 : Str.ofString "sm" = ⟨⟨[nat_lit 115, nat_lit 109]⟩⟩ := rfl
    have strE239 : Str.ofString "f" = ⟨⟨[nat_lit 102]⟩⟩ := rfl
    have strE240 : Str.ofString "e" = ⟨⟨[nat_lit 101]⟩⟩ := rfl
    have strE241 : Str.ofString "b" = ⟨⟨[nat_lit 98]⟩⟩ := rfl
    have strE242 : Str.ofString "hpa" = ⟨⟨[nat_lit 104, nat_lit 112, nat_lit 97]⟩⟩ := rfl
    have strE243 : Str.ofString "d" = ⟨⟨[nat_lit 100]⟩⟩ := rfl
    have strE244 : Str.ofString "γ" = ⟨⟨[nat_lit 947]⟩⟩ := rfl
    have strE245 : Str.ofString "m" = ⟨⟨[nat_lit 109]⟩⟩ := rfl
    have strE246 : Str.ofString "μa" = ⟨⟨[nat_lit 956, nat_lit 97]⟩⟩ := rfl
    have strE247 : Str.ofString "na" = ⟨⟨[nat_lit 110, nat_lit 97]⟩⟩ := rfl
    have strE248 : Str.ofString "pa" = ⟨⟨[nat_lit 112, nat_lit 97]⟩⟩ := rfl
    have strE249 : Str.ofString "ov" = ⟨⟨[nat_lit 111, nat_lit 118]⟩⟩ := rfl
    have strE250 : Str.ofString "au" = ⟨⟨[nat_lit 97, nat_lit 117]⟩⟩ := rfl
    have strE251 : Str.ofString "gb" = ⟨⟨[nat_lit 103, nat_lit 98]⟩⟩ := rfl
    have strE252 : Str.ofString "mb" = ⟨⟨[nat_lit 109, nat_lit 98]⟩⟩ := rfl
    have strE253 : Str.ofString "kb" = ⟨⟨[nat_lit 107, nat_lit 98]⟩⟩ := rfl
    have strE254 : Str.ofString "ka" = ⟨⟨[nat_lit 107, nat_lit 97]⟩⟩ := rfl
    have strE255 : Str.ofString "ma" = ⟨⟨[nat_lit 109, nat_lit 97]⟩⟩ := rfl
    have strE256 : Str.ofString "khz" = ⟨⟨[nat_lit 107, nat_lit 104, nat_lit 122]⟩⟩ := rfl
    have strE257 : Str.ofString "hz" = ⟨⟨[nat_lit 104, nat_lit 122]⟩⟩ := rfl
    have strE258 : Str.ofString "μf" = ⟨⟨[nat_lit 956, nat_lit 102]⟩⟩ := rfl
    have strE259 : Str.ofString "nf" = ⟨⟨[nat_lit 110, nat_lit 102]⟩⟩ := rfl
    have strE260 : Str.ofString "pf" = ⟨⟨[nat_lit 112, nat_lit 102]⟩⟩ := rfl
    have strE261 : Str.ofString "mpa" = ⟨⟨[nat_lit 109, nat_lit 112, nat_lit 97]⟩⟩ := rfl
    have strE262 : Str.ofString "kpa" = ⟨⟨[nat_lit 107, nat_lit 112, nat_lit 97]⟩⟩ := rfl
    have strE263 : Str.ofString "thz" = ⟨⟨[nat_lit 116, nat_lit 104, nat_lit 122]⟩⟩ := rfl
    have strE264 : Str.ofString "ghz" = ⟨⟨[nat_lit 103, nat_lit 104, nat_lit 122]⟩⟩ := rfl
    have strE265 : Str.ofString "mhz" = ⟨⟨[nat_lit 109, nat_lit 104, nat_lit 122]⟩⟩ := rfl
    have strE266 : Str.ofString "mv" = ⟨⟨[nat_lit 109, nat_lit 118]⟩⟩ := rfl
    have strE267 : Str.ofString "μv" = ⟨⟨[nat_lit 956, nat_lit 118]⟩⟩ := rfl
    have strE268 : Str.ofString "nv" = ⟨⟨[nat_lit 110, nat_lit 118]⟩⟩ := rfl
    have strE269 : Str.ofString "pv" = ⟨⟨[nat_lit 112, nat_lit 118]⟩⟩ := rfl
    have strE270 : Str.ofString "gpa" = ⟨⟨[nat_lit 103, nat_lit 112, nat_lit 97]⟩⟩ := rfl
    have strE271 : Str.ofString "μw" = ⟨⟨[nat_lit 956, nat_lit 119]⟩⟩ := rfl
    have strE272 : Str.ofString "nw" = ⟨⟨[nat_lit 110, nat_lit 119]⟩⟩ := rfl
    have strE273 : Str.ofString "pw" = ⟨⟨[nat_lit 112, nat_lit 119]⟩⟩ := rfl
    have strE274 : Str.ofString "mω" = ⟨⟨[nat_lit 109, nat_lit 969]⟩⟩ := rfl
    have strE275 : Str.ofString "kω" = ⟨⟨[nat_lit 107, nat_lit 969]⟩⟩ := rfl
    have strE276 : Str.ofString "mw" = ⟨⟨[nat_lit 109, nat_lit 119]⟩⟩ := rfl
    have strE277 : Str.ofString "kw" = ⟨⟨[nat_lit 107, nat_lit 119]⟩⟩ := rfl
    have strE278 : Str.ofString "gy" = ⟨⟨[nat_lit 103, nat_lit 121]⟩⟩ := rfl
    have strE279 : Str.ofString "db" = ⟨⟨[nat_lit 100, nat_lit 98]⟩⟩ := rfl
    have strE280 : Str.ofString "co." = ⟨⟨[nat_lit 99, nat_lit 111, nat_lit 46]⟩⟩ := rfl
    have strE281 : Str.ofString "c∕kg" = ⟨⟨[nat_lit 99, nat_lit 8725, nat_lit 107, nat_lit 103]⟩⟩ := rfl
    have strE282 : Str.ofString "bq" = ⟨⟨[nat_lit 98, nat_lit 113]⟩⟩ := rfl
    have strE283 : Str.ofString "ppm" = ⟨⟨[nat_lit 112, nat_lit 112, nat_lit 109]⟩⟩ := rfl
    have strE284 : Str.ofString "ph" = ⟨⟨[nat_lit 112, nat_lit 104]⟩⟩ := rfl
    have strE285 : Str.ofString "km" = ⟨⟨[nat_lit 107, nat_lit 109]⟩⟩ := rfl
    have strE286 : Str.ofString "kk" = ⟨⟨[nat_lit 107, nat_lit 107]⟩⟩ := rfl
    have strE287 : Str.ofString "hp" = ⟨⟨[nat_lit 104, nat_lit 112]⟩⟩ := rfl
    have strE288 : Str.ofString "fi" = ⟨⟨[nat_lit 102, nat_lit 105]⟩⟩ := rfl
    have strE289 : Str.ofString "ff" = ⟨⟨[nat_lit 102, nat_lit 102]⟩⟩ := rfl
    have strE290 : Str.ofString "wb" = ⟨⟨[nat_lit 119, nat_lit 98]⟩⟩ := rfl
    have strE291 : Str.ofString "sv" = ⟨⟨[nat_lit 115, nat_lit 118]⟩⟩ := rfl
    have strE292 : Str.ofString "pr" = ⟨⟨[nat_lit 112, nat_lit 114]⟩⟩ := rfl
    have strE293 : Str.ofString "st" = ⟨⟨[nat_lit 115, nat_lit 116]⟩⟩ := rfl
    have strE294 : Str.ofString "ffl" = ⟨⟨[nat_lit 102, nat_lit 102, nat_lit 108]⟩⟩ := rfl
    have strE295 : Str.ofString "ffi" = ⟨⟨[nat_lit 102, nat_lit 102, nat_lit 105]⟩⟩ := rfl
    have strE296 : Str.ofString "fl" = ⟨⟨[nat_lit 102, nat_lit 108]⟩⟩ := rfl
    have strE297 : Str.ofString "մխ" = ⟨⟨[nat_lit 1396, nat_lit 1389]⟩⟩ := rfl
    have strE298 : Str.ofString "վն" = ⟨⟨[nat_lit 1406, nat_lit 1398]⟩⟩ := rfl
    have strE299 : Str.ofString "մի" = ⟨⟨[nat_lit 1396, nat_lit 1387]⟩⟩ := rfl
    have strE300 : Str.ofString "մե" = ⟨⟨[nat_lit 1396, nat_lit 1381]⟩⟩ := rfl
    have strE301 : Str.ofString "մն" = ⟨⟨[nat_lit 1396, nat_lit 1398]⟩⟩ := rfl
    have strE302 : Str.ofString "a" = ⟨⟨[nat_lit 97]⟩⟩ := rfl
    have strE303 : Str.ofString "j" = ⟨⟨[nat_lit 106]⟩⟩ := rfl
    have strE304 : Str.ofString "g" = ⟨⟨[nat_lit 103]⟩⟩ := rfl
    have strE305 : Str.ofString "o" = ⟨⟨[nat_lit 111]⟩⟩ := rfl
    have strE306 : Str.ofString "t" = ⟨⟨[nat_lit 116]⟩⟩ := rfl
    have strE307 : Str.ofString "y" = ⟨⟨[nat_lit 121]⟩⟩ := rfl
    have strE308 : Str.ofString "w" = ⟨⟨[nat_lit 119]⟩⟩ := rfl
    have strE309 : Str.ofString "u" = ⟨⟨[nat_lit 117]⟩⟩ := rfl
    have strE310 : Str.ofString "α" = ⟨⟨[nat_lit 945]⟩⟩ := rfl
    have strE311 : Str.ofString "η" = ⟨⟨[nat_lit 951]⟩⟩ := rfl
    have strE312 : Str.ofString "ζ" = ⟨⟨[nat_lit 950]⟩⟩ := rfl
    have strE313 : Str.ofString "δ" = ⟨⟨[nat_lit 948]⟩⟩ := rfl
    have strE314 : Str.ofString "λ" = ⟨⟨[nat_lit 955]⟩⟩ := rfl
    have strE315 : Str.ofString "ο" = ⟨⟨[nat_lit 959]⟩⟩ := rfl
    have strE316 : Str.ofString "ξ" = ⟨⟨[nat_lit 958]⟩⟩ := rfl
    have strE317 : Str.ofString "ν" = ⟨⟨[nat_lit 957]⟩⟩ := rfl
    have strE318 : Str.ofString "τ" = ⟨⟨[nat_lit 964]⟩⟩ := rfl
    have strE319 : Str.ofString "ω" = ⟨⟨[nat_lit 969]⟩⟩ := rfl
    have strE320 : Str.ofString "ψ" = ⟨⟨[nat_lit 968]⟩⟩ := rfl
    have strE321 : Str.ofString "χ" = ⟨⟨[nat_lit 967]⟩⟩ := rfl
    have strE322 : Str.ofString "cpy313.stringprep" = ⟨⟨[nat_lit 99, nat_lit 112, nat_lit 121, nat_lit 51, nat_lit 49, nat_lit 51, nat_lit 46, nat_lit 115, nat_lit 116, nat_lit 114, nat_lit 105, nat_lit 110, nat_lit 103, nat_lit 112, nat_lit 114, nat_lit 101, nat_lit 112]⟩⟩ := rfl
    have strE323 : Str.ofString "_initial_size" = ⟨⟨[nat_lit 95, nat_lit 105, nat_lit 110, nat_lit 105, nat_lit 116, nat_lit 105, nat_lit 97, nat_lit 108, nat_lit 95, nat_lit 115, nat_lit 105, nat_lit 122, nat_lit 101]⟩⟩ := rfl
    have strE324 : Str.ofString "part_count" = ⟨⟨[nat_lit 112, nat_lit 97, nat_lit 114, nat_lit 116, nat_lit 95, nat_lit 99, nat_lit 111, nat_lit 117, nat_lit 110, nat_lit 116]⟩⟩ := rfl
    have strE325 : Str.ofString "is_onlyws" = ⟨⟨[nat_lit 105, nat_lit 115, nat_lit 95, nat_lit 111, nat_lit 110, nat_lit 108, nat_lit 121, nat_lit 119, nat_lit 115]⟩⟩ := rfl
    have strE326 : Str.ofString "reset" = ⟨⟨[nat_lit 114, nat_lit 101, nat_lit 115, nat_lit 101, nat_lit 116]⟩⟩ := rfl
    have strE327 : Str.ofString "pop_from" = ⟨⟨[nat_lit 112, nat_lit 111, nat_lit 112, nat_lit 95, nat_lit 102, nat_lit 114, nat_lit 111, nat_lit 109]⟩⟩ := rfl
    have strE328 : Str.ofString "super" = ⟨⟨[nat_lit 115, nat_lit 117, nat_lit 112, nat_lit 101, nat_lit 114]⟩⟩ := rfl
    have strE329 : Str.ofString "startval" = ⟨⟨[nat_lit 115, nat_lit 116, nat_lit 97, nat_lit 114, nat_lit 116, nat_lit 118, nat_lit 97, nat_lit 108]⟩⟩ := rfl
    have strE330 : Str.ofString "part" = ⟨⟨[nat_lit 112, nat_lit 97, nat_lit 114, nat_lit 116]⟩⟩ := rfl
    have strE331 : Str.ofString "fws" = ⟨⟨[nat_lit 102, nat_lit 119, nat_lit 115]⟩⟩ := rfl
    have strE332 : Str.ofString "sum" = ⟨⟨[nat_lit 115, nat_lit 117, nat_lit 109]⟩⟩ := rfl
    have strE333 : Str.ofString "string" = ⟨⟨[nat_lit 115, nat_lit 116, nat_lit 114, nat_lit 105, nat_lit 110, nat_lit 103]⟩⟩ := rfl
    have strE334 : Str.ofString "initial_size" = ⟨⟨[nat_lit 105, nat_lit 110, nat_lit 105, nat_lit 116, nat_lit 105, nat_lit 97, nat_lit 108, nat_lit 95, nat_lit 115, nat_lit 105, nat_lit 122, nat_lit 101]⟩⟩ := rfl
    have strE335 : Str.ofString "cpy313.email.header" = ⟨⟨[nat_lit 99, nat_lit 112, nat_lit 121, nat_lit 51, nat_lit 49, nat_lit 51, nat_lit 46, nat_lit 101, nat_lit 109, nat_lit 97, nat_lit 105, nat_lit 108, nat_lit 46, nat_lit 104, nat_lit 101, nat_lit 97, nat_lit 100, nat_lit 101, nat_lit 114]⟩⟩ := rfl
    simp -decide -ground only [strE0, strE1, strE2, strE3, strE4, strE5, strE6, strE7, strE8, strE9, strE10, strE11, strE12, strE13, strE14, strE15, strE16, strE17, strE18, strE19, strE20, strE21, strE22, strE23, strE24, strE25, strE26, strE27, strE28, strE29, strE30, strE31, strE32, strE33, strE34, strE35, strE36, strE37, strE38, strE39, strE40, strE41, strE42, strE43, strE44, strE45, strE46, strE47, strE48, strE49, strE50, strE51, strE52, strE53, strE54, strE55, strE56, strE57, strE58, strE59, strE60, strE61, strE62, strE63, strE64, strE65, strE66, strE67, strE68, strE69, strE70, strE71, strE72, strE73, strE74, strE75, strE76, strE77, strE78, strE79, strE80, strE81, strE82, strE83, strE84, strE85, strE86, strE87, strE88, strE89, strE90, strE91, strE92, strE93, strE94, strE95, strE96, strE97, strE98, strE99, strE100, strE101, strE102, strE103, strE104, strE105, strE106, strE107, strE108, strE109, strE110, strE111, strE112, strE113, strE114, strE115, strE116, strE117, strE118, strE119, strE120, strE121, strE122, strE123, strE124, strE125, strE126, strE127, strE128, strE129, strE130, strE131, strE132, strE133, strE134, strE135, strE136, strE137, strE138, strE139, strE140, strE141, strE142, strE143, strE144, strE145, strE146, strE147, strE148, strE149, strE150, strE151, strE152, strE153, strE154, strE155, strE156, strE157, strE158, strE159, strE160, strE161, strE162, strE163, strE164, strE165, strE166, strE167, strE168, strE169, strE170, strE171, strE172, strE173, strE174, strE175, strE176, strE177, strE178, strE179, strE180, strE181, strE182, strE183, strE184, strE185, strE186, strE187, strE188, strE189, strE190, strE191, strE192, strE193, strE194, strE195, strE196, strE197, strE198, strE199, strE200, strE201, strE202, strE203, strE204, strE205, strE206, strE207, strE208, strE209, strE210, strE211, strE212, strE213, strE214, strE215, strE216, strE217, strE218, strE219, strE220, strE221, strE222, strE223, strE224, strE225, strE226, strE227, strE228, strE229, strE230, strE231, strE232, strE233, strE234, strE235, strE236, strE237, strE238, strE239, strE240, strE241, strE242, strE243, strE244, strE245, strE246, strE247, strE248, strE249, strE250, strE251, strE252, strE253, strE254, strE255, strE256, strE257, strE258, strE259, strE260, strE261, strE262, strE263, strE264, strE265, strE266, strE267, strE268, strE269, strE270, strE271, strE272, strE273, strE274, strE275, strE276, strE277, strE278, strE279, strE280, strE281, strE282, strE283, strE284, strE285, strE286, strE287, strE288, strE289, strE290, strE291, strE292, strE293, strE294, strE295, strE296, strE297, strE298, strE299, strE300, strE301, strE302, strE303, strE304, strE305, strE306, strE307, strE308, strE309, strE310, strE311, strE312, strE313, strE314, strE315, strE316, strE317, strE318, strE319, strE320, strE321, strE322, strE323, strE324, strE325, strE326, strE327, strE328, strE329, strE330, strE331, strE332, strE333, strE334, strE335] at b
    exact b) : Box ?p); ?p
noncomputable abbrev PW : Program := PWv
theorem pw_eq : PySem.Challenge.pw_wk0051_01 = PW := by kernel_rfl
noncomputable abbrev kh (P : Params) (x : Str) : Int := PyData.keyHash P x
noncomputable def stOf (i : Nat) : Stmt := PW.main.body.getD i (.Pass default)
noncomputable def inOf (i j : Nat) : Stmt := match stOf i with
  | .ClassDef _ _ _ b _ _ _ _ _ _ _ => b.getD j (.Pass default)
  | s => s
noncomputable def partsOf : Stmt → Arguments × List Stmt × Scope
  | .FunctionDef _ a b _ _ _ sc _ _ _ => (a, b, sc)
  | _ => (default, [], default)
noncomputable def fnA (i : Nat) : Arguments × List Stmt × Scope := partsOf (stOf i)
noncomputable def fnB (i j : Nat) : Arguments × List Stmt × Scope := partsOf (inOf i j)
noncomputable def mkF (x : Arguments × List Stmt × Scope) (name qual : Str) (g : Addr) (cl : List (Str × Addr)) (dV kV doc pm : Value) (an : Option Addr) (cd ct : Value) (b : Addr) : FuncData :=
  { name := name, qualname := qual, params := x.1, body := .stmts x.2.1, scope := x.2.2, globals := g, closure := cl, defaults := dV, kwdefaults := kV, doc := doc, pyModule := pm, annotations := an, code := cd, closureTuple := ct, builtins := b }
noncomputable def s0 : Str := ⟨⟨[95, 95, 110, 97, 109, 101, 95, 95]⟩⟩
noncomputable def s1 : Str := ⟨⟨[98, 117, 105, 108, 116, 105, 110, 115]⟩⟩
noncomputable def s2 : Str := ⟨⟨[95, 95, 100, 111, 99, 95, 95]⟩⟩
noncomputable def s3 : Str := ⟨⟨[95, 95, 112, 97, 99, 107, 97, 103, 101, 95, 95]⟩⟩
noncomputable def s4 : Str := ⟨⟨[95, 95, 108, 111, 97, 100, 101, 114, 95, 95]⟩⟩
noncomputable def s5 : Str := ⟨⟨[95, 95, 115, 112, 101, 99, 95, 95]⟩⟩
noncomputable def s6 : Str := ⟨⟨[95, 95, 98, 117, 105, 108, 100, 95, 99, 108, 97, 115, 115, 95, 95]⟩⟩
noncomputable def s7 : Str := ⟨⟨[95, 95, 105, 109, 112, 111, 114, 116, 95, 95]⟩⟩
noncomputable def s8 : Str := ⟨⟨[97, 98, 115]⟩⟩
noncomputable def s9 : Str := ⟨⟨[97, 108, 108]⟩⟩
noncomputable def s10 : Str := ⟨⟨[97, 110, 121]⟩⟩
noncomputable def s11 : Str := ⟨⟨[97, 115, 99, 105, 105]⟩⟩
noncomputable def s12 : Str := ⟨⟨[98, 105, 110]⟩⟩
noncomputable def s13 : Str := ⟨⟨[98, 114, 101, 97, 107, 112, 111, 105, 110, 116]⟩⟩
noncomputable def s14 : Str := ⟨⟨[99, 97, 108, 108, 97, 98, 108, 101]⟩⟩
noncomputable def s15 : Str := ⟨⟨[99, 104, 114]⟩⟩
noncomputable def s16 : Str := ⟨⟨[99, 111, 109, 112, 105, 108, 101]⟩⟩
noncomputable def s17 : Str := ⟨⟨[100, 101, 108, 97, 116, 116, 114]⟩⟩
noncomputable def s18 : Str := ⟨⟨[100, 105, 114]⟩⟩
noncomputable def s19 : Str := ⟨⟨[100, 105, 118, 109, 111, 100]⟩⟩
noncomputable def s20 : Str := ⟨⟨[101, 118, 97, 108]⟩⟩
noncomputable def s21 : Str := ⟨⟨[101, 120, 101, 99]⟩⟩
noncomputable def s22 : Str := ⟨⟨[102, 111, 114, 109, 97, 116]⟩⟩
noncomputable def s23 : Str := ⟨⟨[103, 101, 116, 97, 116, 116, 114]⟩⟩
noncomputable def s24 : Str := ⟨⟨[103, 108, 111, 98, 97, 108, 115]⟩⟩
noncomputable def s25 : Str := ⟨⟨[104, 97, 115, 97, 116, 116, 114]⟩⟩
noncomputable def s26 : Str := ⟨⟨[104, 97, 115, 104]⟩⟩
noncomputable def s27 : Str := ⟨⟨[104, 101, 120]⟩⟩
noncomputable def s28 : Str := ⟨⟨[105, 100]⟩⟩
noncomputable def s29 : Str := ⟨⟨[105, 110, 112, 117, 116]⟩⟩
noncomputable def s30 : Str := ⟨⟨[105, 115, 105, 110, 115, 116, 97, 110, 99, 101]⟩⟩
noncomputable def s31 : Str := ⟨⟨[105, 115, 115, 117, 98, 99, 108, 97, 115, 115]⟩⟩
noncomputable def s32 : Str := ⟨⟨[105, 116, 101, 114]⟩⟩
noncomputable def s33 : Str := ⟨⟨[97, 105, 116, 101, 114]⟩⟩
noncomputable def s34 : Str := ⟨⟨[108, 101, 110]⟩⟩
noncomputable def s35 : Str := ⟨⟨[108, 111, 99, 97, 108, 115]⟩⟩
noncomputable def s36 : Str := ⟨⟨[109, 97, 120]⟩⟩
noncomputable def s37 : Str := ⟨⟨[109, 105, 110]⟩⟩
noncomputable def s38 : Str := ⟨⟨[110, 101, 120, 116]⟩⟩
noncomputable def s39 : Str := ⟨⟨[97, 110, 101, 120, 116]⟩⟩
noncomputable def s40 : Str := ⟨⟨[111, 99, 116]⟩⟩
noncomputable def s41 : Str := ⟨⟨[111, 114, 100]⟩⟩
noncomputable def s42 : Str := ⟨⟨[112, 111, 119]⟩⟩
noncomputable def s43 : Str := ⟨⟨[112, 114, 105, 110, 116]⟩⟩
noncomputable def s44 : Str := ⟨⟨[114, 101, 112, 114]⟩⟩
noncomputable def s45 : Str := ⟨⟨[114, 111, 117, 110, 100]⟩⟩
noncomputable def s46 : Str := ⟨⟨[115, 101, 116, 97, 116, 116, 114]⟩⟩
noncomputable def s47 : Str := ⟨⟨[115, 111, 114, 116, 101, 100]⟩⟩
noncomputable def s48 : Str := ⟨⟨[115, 117, 109]⟩⟩
noncomputable def s49 : Str := ⟨⟨[118, 97, 114, 115]⟩⟩
noncomputable def s50 : Str := ⟨⟨[78, 111, 110, 101]⟩⟩
noncomputable def s51 : Str := ⟨⟨[69, 108, 108, 105, 112, 115, 105, 115]⟩⟩
noncomputable def s52 : Str := ⟨⟨[78, 111, 116, 73, 109, 112, 108, 101, 109, 101, 110, 116, 101, 100]⟩⟩
noncomputable def s53 : Str := ⟨⟨[70, 97, 108, 115, 101]⟩⟩
noncomputable def s54 : Str := ⟨⟨[84, 114, 117, 101]⟩⟩
noncomputable def s55 : Str := ⟨⟨[98, 111, 111, 108]⟩⟩
noncomputable def s56 : Str := ⟨⟨[109, 101, 109, 111, 114, 121, 118, 105, 101, 119]⟩⟩
noncomputable def s57 : Str := ⟨⟨[98, 121, 116, 101, 97, 114, 114, 97, 121]⟩⟩
noncomputable def s58 : Str := ⟨⟨[98, 121, 116, 101, 115]⟩⟩
noncomputable def s59 : Str := ⟨⟨[99, 108, 97, 115, 115, 109, 101, 116, 104, 111, 100]⟩⟩
noncomputable def s60 : Str := ⟨⟨[99, 111, 109, 112, 108, 101, 120]⟩⟩
noncomputable def s61 : Str := ⟨⟨[100, 105, 99, 116]⟩⟩
noncomputable def s62 : Str := ⟨⟨[101, 110, 117, 109, 101, 114, 97, 116, 101]⟩⟩
noncomputable def s63 : Str := ⟨⟨[102, 105, 108, 116, 101, 114]⟩⟩
noncomputable def s64 : Str := ⟨⟨[102, 108, 111, 97, 116]⟩⟩
noncomputable def s65 : Str := ⟨⟨[102, 114, 111, 122, 101, 110, 115, 101, 116]⟩⟩
noncomputable def s66 : Str := ⟨⟨[112, 114, 111, 112, 101, 114, 116, 121]⟩⟩
noncomputable def s67 : Str := ⟨⟨[105, 110, 116]⟩⟩
noncomputable def s68 : Str := ⟨⟨[108, 105, 115, 116]⟩⟩
noncomputable def s69 : Str := ⟨⟨[109, 97, 112]⟩⟩
noncomputable def s70 : Str := ⟨⟨[111, 98, 106, 101, 99, 116]⟩⟩
noncomputable def s71 : Str := ⟨⟨[114, 97, 110, 103, 101]⟩⟩
noncomputable def s72 : Str := ⟨⟨[114, 101, 118, 101, 114, 115, 101, 100]⟩⟩
noncomputable def s73 : Str := ⟨⟨[115, 101, 116]⟩⟩
noncomputable def s74 : Str := ⟨⟨[115, 108, 105, 99, 101]⟩⟩
noncomputable def s75 : Str := ⟨⟨[115, 116, 97, 116, 105, 99, 109, 101, 116, 104, 111, 100]⟩⟩
noncomputable def s76 : Str := ⟨⟨[115, 116, 114]⟩⟩
noncomputable def s77 : Str := ⟨⟨[115, 117, 112, 101, 114]⟩⟩
noncomputable def s78 : Str := ⟨⟨[116, 117, 112, 108, 101]⟩⟩
noncomputable def s79 : Str := ⟨⟨[116, 121, 112, 101]⟩⟩
noncomputable def s80 : Str := ⟨⟨[122, 105, 112]⟩⟩
noncomputable def s81 : Str := ⟨⟨[95, 95, 100, 101, 98, 117, 103, 95, 95]⟩⟩
noncomputable def s82 : Str := ⟨⟨[66, 97, 115, 101, 69, 120, 99, 101, 112, 116, 105, 111, 110]⟩⟩
noncomputable def s83 : Str := ⟨⟨[66, 97, 115, 101, 69, 120, 99, 101, 112, 116, 105, 111, 110, 71, 114, 111, 117, 112]⟩⟩
noncomputable def s84 : Str := ⟨⟨[69, 120, 99, 101, 112, 116, 105, 111, 110]⟩⟩
noncomputable def s85 : Str := ⟨⟨[71, 101, 110, 101, 114, 97, 116, 111, 114, 69, 120, 105, 116]⟩⟩
noncomputable def s86 : Str := ⟨⟨[75, 101, 121, 98, 111, 97, 114, 100, 73, 110, 116, 101, 114, 114, 117, 112, 116]⟩⟩
noncomputable def s87 : Str := ⟨⟨[83, 121, 115, 116, 101, 109, 69, 120, 105, 116]⟩⟩
noncomputable def s88 : Str := ⟨⟨[65, 114, 105, 116, 104, 109, 101, 116, 105, 99, 69, 114, 114, 111, 114]⟩⟩
noncomputable def s89 : Str := ⟨⟨[65, 115, 115, 101, 114, 116, 105, 111, 110, 69, 114, 114, 111, 114]⟩⟩
noncomputable def s90 : Str := ⟨⟨[65, 116, 116, 114, 105, 98, 117, 116, 101, 69, 114, 114, 111, 114]⟩⟩
noncomputable def s91 : Str := ⟨⟨[66, 117, 102, 102, 101, 114, 69, 114, 114, 111, 114]⟩⟩
noncomputable def s92 : Str := ⟨⟨[69, 79, 70, 69, 114, 114, 111, 114]⟩⟩
noncomputable def s93 : Str := ⟨⟨[73, 109, 112, 111, 114, 116, 69, 114, 114, 111, 114]⟩⟩
noncomputable def s94 : Str := ⟨⟨[76, 111, 111, 107, 117, 112, 69, 114, 114, 111, 114]⟩⟩
noncomputable def s95 : Str := ⟨⟨[77, 101, 109, 111, 114, 121, 69, 114, 114, 111, 114]⟩⟩
noncomputable def s96 : Str := ⟨⟨[78, 97, 109, 101, 69, 114, 114, 111, 114]⟩⟩
noncomputable def s97 : Str := ⟨⟨[79, 83, 69, 114, 114, 111, 114]⟩⟩
noncomputable def s98 : Str := ⟨⟨[82, 101, 102, 101, 114, 101, 110, 99, 101, 69, 114, 114, 111, 114]⟩⟩
noncomputable def s99 : Str := ⟨⟨[82, 117, 110, 116, 105, 109, 101, 69, 114, 114, 111, 114]⟩⟩
noncomputable def s100 : Str := ⟨⟨[83, 116, 111, 112, 65, 115, 121, 110, 99, 73, 116, 101, 114, 97, 116, 105, 111, 110]⟩⟩
noncomputable def s101 : Str := ⟨⟨[83, 116, 111, 112, 73, 116, 101, 114, 97, 116, 105, 111, 110]⟩⟩
noncomputable def s102 : Str := ⟨⟨[83, 121, 110, 116, 97, 120, 69, 114, 114, 111, 114]⟩⟩
noncomputable def s103 : Str := ⟨⟨[83, 121, 115, 116, 101, 109, 69, 114, 114, 111, 114]⟩⟩
noncomputable def s104 : Str := ⟨⟨[84, 121, 112, 101, 69, 114, 114, 111, 114]⟩⟩
noncomputable def s105 : Str := ⟨⟨[86, 97, 108, 117, 101, 69, 114, 114, 111, 114]⟩⟩
noncomputable def s106 : Str := ⟨⟨[87, 97, 114, 110, 105, 110, 103]⟩⟩
noncomputable def s107 : Str := ⟨⟨[70, 108, 111, 97, 116, 105, 110, 103, 80, 111, 105, 110, 116, 69, 114, 114, 111, 114]⟩⟩
noncomputable def s108 : Str := ⟨⟨[79, 118, 101, 114, 102, 108, 111, 119, 69, 114, 114, 111, 114]⟩⟩
noncomputable def s109 : Str := ⟨⟨[90, 101, 114, 111, 68, 105, 118, 105, 115, 105, 111, 110, 69, 114, 114, 111, 114]⟩⟩
noncomputable def s110 : Str := ⟨⟨[66, 121, 116, 101, 115, 87, 97, 114, 110, 105, 110, 103]⟩⟩
noncomputable def s111 : Str := ⟨⟨[68, 101, 112, 114, 101, 99, 97, 116, 105, 111, 110, 87, 97, 114, 110, 105, 110, 103]⟩⟩
noncomputable def s112 : Str := ⟨⟨[69, 110, 99, 111, 100, 105, 110, 103, 87, 97, 114, 110, 105, 110, 103]⟩⟩
noncomputable def s113 : Str := ⟨⟨[70, 117, 116, 117, 114, 101, 87, 97, 114, 110, 105, 110, 103]⟩⟩
noncomputable def s114 : Str := ⟨⟨[73, 109, 112, 111, 114, 116, 87, 97, 114, 110, 105, 110, 103]⟩⟩
noncomputable def s115 : Str := ⟨⟨[80, 101, 110, 100, 105, 110, 103, 68, 101, 112, 114, 101, 99, 97, 116, 105, 111, 110, 87, 97, 114, 110, 105, 110, 103]⟩⟩
noncomputable def s116 : Str := ⟨⟨[82, 101, 115, 111, 117, 114, 99, 101, 87, 97, 114, 110, 105, 110, 103]⟩⟩
noncomputable def s117 : Str := ⟨⟨[82, 117, 110, 116, 105, 109, 101, 87, 97, 114, 110, 105, 110, 103]⟩⟩
noncomputable def s118 : Str := ⟨⟨[83, 121, 110, 116, 97, 120, 87, 97, 114, 110, 105, 110, 103]⟩⟩
noncomputable def s119 : Str := ⟨⟨[85, 110, 105, 99, 111, 100, 101, 87, 97, 114, 110, 105, 110, 103]⟩⟩
noncomputable def s120 : Str := ⟨⟨[85, 115, 101, 114, 87, 97, 114, 110, 105, 110, 103]⟩⟩
noncomputable def s121 : Str := ⟨⟨[66, 108, 111, 99, 107, 105, 110, 103, 73, 79, 69, 114, 114, 111, 114]⟩⟩
noncomputable def s122 : Str := ⟨⟨[67, 104, 105, 108, 100, 80, 114, 111, 99, 101, 115, 115, 69, 114, 114, 111, 114]⟩⟩
noncomputable def s123 : Str := ⟨⟨[67, 111, 110, 110, 101, 99, 116, 105, 111, 110, 69, 114, 114, 111, 114]⟩⟩
noncomputable def s124 : Str := ⟨⟨[70, 105, 108, 101, 69, 120, 105, 115, 116, 115, 69, 114, 114, 111, 114]⟩⟩
noncomputable def s125 : Str := ⟨⟨[70, 105, 108, 101, 78, 111, 116, 70, 111, 117, 110, 100, 69, 114, 114, 111, 114]⟩⟩
noncomputable def s126 : Str := ⟨⟨[73, 110, 116, 101, 114, 114, 117, 112, 116, 101, 100, 69, 114, 114, 111, 114]⟩⟩
noncomputable def s127 : Str := ⟨⟨[73, 115, 65, 68, 105, 114, 101, 99, 116, 111, 114, 121, 69, 114, 114, 111, 114]⟩⟩
noncomputable def s128 : Str := ⟨⟨[78, 111, 116, 65, 68, 105, 114, 101, 99, 116, 111, 114, 121, 69, 114, 114, 111, 114]⟩⟩
noncomputable def s129 : Str := ⟨⟨[80, 101, 114, 109, 105, 115, 115, 105, 111, 110, 69, 114, 114, 111, 114]⟩⟩
noncomputable def s130 : Str := ⟨⟨[80, 114, 111, 99, 101, 115, 115, 76, 111, 111, 107, 117, 112, 69, 114, 114, 111, 114]⟩⟩
noncomputable def s131 : Str := ⟨⟨[84, 105, 109, 101, 111, 117, 116, 69, 114, 114, 111, 114]⟩⟩
noncomputable def s132 : Str := ⟨⟨[73, 110, 100, 101, 110, 116, 97, 116, 105, 111, 110, 69, 114, 114, 111, 114]⟩⟩
noncomputable def s133 : Str := ⟨⟨[95, 73, 110, 99, 111, 109, 112, 108, 101, 116, 101, 73, 110, 112, 117, 116, 69, 114, 114, 111, 114]⟩⟩
noncomputable def s134 : Str := ⟨⟨[73, 110, 100, 101, 120, 69, 114, 114, 111, 114]⟩⟩
noncomputable def s135 : Str := ⟨⟨[75, 101, 121, 69, 114, 114, 111, 114]⟩⟩
noncomputable def s136 : Str := ⟨⟨[77, 111, 100, 117, 108, 101, 78, 111, 116, 70, 111, 117, 110, 100, 69, 114, 114, 111, 114]⟩⟩
noncomputable def s137 : Str := ⟨⟨[78, 111, 116, 73, 109, 112, 108, 101, 109, 101, 110, 116, 101, 100, 69, 114, 114, 111, 114]⟩⟩
noncomputable def s138 : Str := ⟨⟨[80, 121, 116, 104, 111, 110, 70, 105, 110, 97, 108, 105, 122, 97, 116, 105, 111, 110, 69, 114, 114, 111, 114]⟩⟩
noncomputable def s139 : Str := ⟨⟨[82, 101, 99, 117, 114, 115, 105, 111, 110, 69, 114, 114, 111, 114]⟩⟩
noncomputable def s140 : Str := ⟨⟨[85, 110, 98, 111, 117, 110, 100, 76, 111, 99, 97, 108, 69, 114, 114, 111, 114]⟩⟩
noncomputable def s141 : Str := ⟨⟨[85, 110, 105, 99, 111, 100, 101, 69, 114, 114, 111, 114]⟩⟩
noncomputable def s142 : Str := ⟨⟨[66, 114, 111, 107, 101, 110, 80, 105, 112, 101, 69, 114, 114, 111, 114]⟩⟩
noncomputable def s143 : Str := ⟨⟨[67, 111, 110, 110, 101, 99, 116, 105, 111, 110, 65, 98, 111, 114, 116, 101, 100, 69, 114, 114, 111, 114]⟩⟩
noncomputable def s144 : Str := ⟨⟨[67, 111, 110, 110, 101, 99, 116, 105, 111, 110, 82, 101, 102, 117, 115, 101, 100, 69, 114, 114, 111, 114]⟩⟩
noncomputable def s145 : Str := ⟨⟨[67, 111, 110, 110, 101, 99, 116, 105, 111, 110, 82, 101, 115, 101, 116, 69, 114, 114, 111, 114]⟩⟩
noncomputable def s146 : Str := ⟨⟨[84, 97, 98, 69, 114, 114, 111, 114]⟩⟩
noncomputable def s147 : Str := ⟨⟨[85, 110, 105, 99, 111, 100, 101, 68, 101, 99, 111, 100, 101, 69, 114, 114, 111, 114]⟩⟩
noncomputable def s148 : Str := ⟨⟨[85, 110, 105, 99, 111, 100, 101, 69, 110, 99, 111, 100, 101, 69, 114, 114, 111, 114]⟩⟩
noncomputable def s149 : Str := ⟨⟨[85, 110, 105, 99, 111, 100, 101, 84, 114, 97, 110, 115, 108, 97, 116, 101, 69, 114, 114, 111, 114]⟩⟩
noncomputable def s150 : Str := ⟨⟨[69, 120, 99, 101, 112, 116, 105, 111, 110, 71, 114, 111, 117, 112]⟩⟩
noncomputable def s151 : Str := ⟨⟨[69, 110, 118, 105, 114, 111, 110, 109, 101, 110, 116, 69, 114, 114, 111, 114]⟩⟩
noncomputable def s152 : Str := ⟨⟨[73, 79, 69, 114, 114, 111, 114]⟩⟩
noncomputable def s153 : Str := ⟨⟨[111, 112, 101, 110]⟩⟩
noncomputable def s154 : Str := ⟨⟨[113, 117, 105, 116]⟩⟩
noncomputable def s155 : Str := ⟨⟨[101, 120, 105, 116]⟩⟩
noncomputable def s156 : Str := ⟨⟨[99, 111, 112, 121, 114, 105, 103, 104, 116]⟩⟩
noncomputable def s157 : Str := ⟨⟨[99, 114, 101, 100, 105, 116, 115]⟩⟩
noncomputable def s158 : Str := ⟨⟨[108, 105, 99, 101, 110, 115, 101]⟩⟩
noncomputable def s159 : Str := ⟨⟨[104, 101, 108, 112]⟩⟩
noncomputable def s160 : Str := ⟨⟨[95, 95, 109, 97, 105, 110, 95, 95]⟩⟩
noncomputable def s161 : Str := ⟨⟨[95, 115, 114, 101]⟩⟩
noncomputable def s162 : Str := ⟨⟨[105, 109, 112, 111, 114, 116, 46, 108, 111, 97, 100, 101, 100, 46, 95, 115, 114, 101]⟩⟩
noncomputable def s163 : Str := ⟨⟨[99, 108, 97, 115, 115, 46, 95, 102, 114, 111, 122, 101, 110, 95, 105, 109, 112, 111, 114, 116, 108, 105, 98, 46, 66, 117, 105, 108, 116, 105, 110, 73, 109, 112, 111, 114, 116, 101, 114]⟩⟩
noncomputable def s164 : Str := ⟨⟨[119, 97, 116, 99, 104, 101, 100, 46, 105, 109, 112, 111, 114, 116]⟩⟩
noncomputable def s165 : Str := ⟨⟨[99, 108, 97, 115, 115, 46, 95, 102, 114, 111, 122, 101, 110, 95, 105, 109, 112, 111, 114, 116, 108, 105, 98, 46, 77, 111, 100, 117, 108, 101, 83, 112, 101, 99]⟩⟩
noncomputable def s166 : Str := ⟨⟨[115, 121, 115, 46, 109, 111, 100, 117, 108, 101, 115, 46, 98, 111, 111, 107, 101, 100, 45, 101, 112, 111, 99, 104]⟩⟩
noncomputable def s167 : Str := ⟨⟨[105, 109, 112, 111, 114, 116, 46, 108, 97, 116, 101, 114, 45, 108, 97, 105, 100, 46, 95, 115, 114, 101]⟩⟩
noncomputable def s168 : Str := ⟨⟨[119, 97, 116, 99, 104, 101, 100, 46, 108, 105, 98, 114, 97, 114, 121]⟩⟩
noncomputable def s169 : Str := ⟨⟨[119, 97, 116, 99, 104, 101, 100, 46, 108, 105, 98, 114, 97, 114, 121, 45, 111, 98, 106, 101, 99, 116, 115]⟩⟩
noncomputable def s170 : Str := ⟨⟨[12]⟩⟩
noncomputable def s171 : Str := ⟨⟨[119, 97, 116, 99, 104, 101, 100, 46, 108, 105, 98, 114, 97, 114, 121, 45, 100, 101, 101, 112, 46, 95, 115, 114, 101]⟩⟩
noncomputable def s172 : Str := ⟨⟨[4, 0, 0, 11, 4, 0, 0, 11, 4, 0, 0, 3, 4, 0, 0, 11, 8, 4, 100, 105, 99, 116, 2]⟩⟩
noncomputable def s173 : Str := ⟨⟨[95, 95, 97, 110, 110, 111, 116, 97, 116, 105, 111, 110, 115, 95, 95]⟩⟩
noncomputable def s174 : Str := ⟨⟨[95, 95, 98, 117, 105, 108, 116, 105, 110, 115, 95, 95]⟩⟩
noncomputable def s175 : Str := ⟨⟨[95, 95, 102, 105, 108, 101, 95, 95]⟩⟩
noncomputable def s176 : Str := ⟨⟨[47, 99, 108, 97, 105, 109, 47, 99, 117, 116, 46, 112, 121]⟩⟩
noncomputable def s177 : Str := ⟨⟨[95, 95, 99, 97, 99, 104, 101, 100, 95, 95]⟩⟩
noncomputable def s178 : Str := ⟨⟨[60, 109, 111, 100, 117, 108, 101, 62]⟩⟩
noncomputable def s179 : Str := ⟨⟨[]⟩⟩
noncomputable def s180 : Str := ⟨⟨[116, 101, 109, 112, 108, 97, 116, 101]⟩⟩
noncomputable def s181 : Str := ⟨⟨[103, 101, 116, 99, 111, 100, 101, 115, 105, 122, 101]⟩⟩
noncomputable def s182 : Str := ⟨⟨[97, 115, 99, 105, 105, 95, 105, 115, 99, 97, 115, 101, 100]⟩⟩
noncomputable def s183 : Str := ⟨⟨[117, 110, 105, 99, 111, 100, 101, 95, 105, 115, 99, 97, 115, 101, 100]⟩⟩
noncomputable def s184 : Str := ⟨⟨[97, 115, 99, 105, 105, 95, 116, 111, 108, 111, 119, 101, 114]⟩⟩
noncomputable def s185 : Str := ⟨⟨[117, 110, 105, 99, 111, 100, 101, 95, 116, 111, 108, 111, 119, 101, 114]⟩⟩
noncomputable def s186 : Str := ⟨⟨[77, 65, 71, 73, 67]⟩⟩
noncomputable def s187 : Str := ⟨⟨[67, 79, 68, 69, 83, 73, 90, 69]⟩⟩
noncomputable def s188 : Str := ⟨⟨[77, 65, 88, 82, 69, 80, 69, 65, 84]⟩⟩
noncomputable def s189 : Str := ⟨⟨[77, 65, 88, 71, 82, 79, 85, 80, 83]⟩⟩
noncomputable def s190 : Str := ⟨⟨[32, 83, 82, 69, 32, 50, 46, 50, 46, 50, 32, 67, 111, 112, 121, 114, 105, 103, 104, 116, 32, 40, 99, 41, 32, 49, 57, 57, 55, 45, 50, 48, 48, 50, 32, 98, 121, 32, 83, 101, 99, 114, 101, 116, 32, 76, 97, 98, 115, 32, 65, 66, 32]⟩⟩
noncomputable def s191 : Str := ⟨⟨[95, 95, 109, 111, 100, 117, 108, 101, 95, 95]⟩⟩
noncomputable def s192 : Str := ⟨⟨[95, 102, 114, 111, 122, 101, 110, 95, 105, 109, 112, 111, 114, 116, 108, 105, 98]⟩⟩
noncomputable def s193 : Str := ⟨⟨[95, 95, 102, 105, 114, 115, 116, 108, 105, 110, 101, 110, 111, 95, 95]⟩⟩
noncomputable def s194 : Str := ⟨⟨[95, 79, 82, 73, 71, 73, 78]⟩⟩
noncomputable def s195 : Str := ⟨⟨[98, 117, 105, 108, 116, 45, 105, 110]⟩⟩
noncomputable def s196 : Str := ⟨⟨[102, 105, 110, 100, 95, 115, 112, 101, 99]⟩⟩
noncomputable def s197 : Str := ⟨⟨[99, 114, 101, 97, 116, 101, 95, 109, 111, 100, 117, 108, 101]⟩⟩
noncomputable def s198 : Str := ⟨⟨[101, 120, 101, 99, 95, 109, 111, 100, 117, 108, 101]⟩⟩
noncomputable def s199 : Str := ⟨⟨[103, 101, 116, 95, 99, 111, 100, 101]⟩⟩
noncomputable def s200 : Str := ⟨⟨[103, 101, 116, 95, 115, 111, 117, 114, 99, 101]⟩⟩
noncomputable def s201 : Str := ⟨⟨[105, 115, 95, 112, 97, 99, 107, 97, 103, 101]⟩⟩
noncomputable def s202 : Str := ⟨⟨[108, 111, 97, 100, 95, 109, 111, 100, 117, 108, 101]⟩⟩
noncomputable def s203 : Str := ⟨⟨[95, 95, 115, 116, 97, 116, 105, 99, 95, 97, 116, 116, 114, 105, 98, 117, 116, 101, 115, 95, 95]⟩⟩
noncomputable def s204 : Str := ⟨⟨[95, 95, 100, 105, 99, 116, 95, 95]⟩⟩
noncomputable def s205 : Str := ⟨⟨[95, 95, 119, 101, 97, 107, 114, 101, 102, 95, 95]⟩⟩
noncomputable def s206 : Str := ⟨⟨[66, 117, 105, 108, 116, 105, 110, 73, 109, 112, 111, 114, 116, 101, 114]⟩⟩
noncomputable def s207 : Str := ⟨⟨[6, 189, 10, 95, 95, 109, 111, 100, 117, 108, 101, 95, 95, 6, 186, 17, 95, 102, 114, 111, 122, 101, 110, 95, 105, 109, 112, 111, 114, 116, 108, 105, 98, 6, 190, 15, 95, 95, 102, 105, 114, 115, 116, 108, 105, 110, 101, 110, 111, 95, 95, 4, 187, 0, 971, 6, 191, 7, 95, 95, 100, 111, 99, 95, 95, 9, 52, 95, 102, 114, 111, 122, 101, 110, 95, 105, 109, 112, 111, 114, 116, 108, 105, 98, 46, 66, 117, 105, 108, 116, 105, 110, 73, 109, 112, 111, 114, 116, 101, 114, 46, 95, 95, 100, 111, 99, 95, 95, 58, 115, 116, 114, 35, 111, 112, 97, 113, 117, 101, 6, 192, 7, 95, 79, 82, 73, 71, 73, 78, 6, 188, 8, 98, 117, 105, 108, 116, 45, 105, 110, 6, 193, 9, 102, 105, 110, 100, 95, 115, 112, 101, 99, 9, 50, 95, 102, 114, 111, 122, 101, 110, 95, 105, 109, 112, 111, 114, 116, 108, 105, 98, 46, 66, 117, 105, 108, 116, 105, 110, 73, 109, 112, 111, 114, 116, 101, 114, 46, 102, 105, 110, 100, 95, 115, 112, 101, 99, 35, 111, 112, 97, 113, 117, 101, 6, 194, 13, 99, 114, 101, 97, 116, 101, 95, 109, 111, 100, 117, 108, 101, 9, 54, 95, 102, 114, 111, 122, 101, 110, 95, 105, 109, 112, 111, 114, 116, 108, 105, 98, 46, 66, 117, 105, 108, 116, 105, 110, 73, 109, 112, 111, 114, 116, 101, 114, 46, 99, 114, 101, 97, 116, 101, 95, 109, 111, 100, 117, 108, 101, 35, 111, 112, 97, 113, 117, 101, 6, 195, 11, 101, 120, 101, 99, 95, 109, 111, 100, 117, 108, 101, 9, 52, 95, 102, 114, 111, 122, 101, 110, 95, 105, 109, 112, 111, 114, 116, 108, 105, 98, 46, 66, 117, 105, 108, 116, 105, 110, 73, 109, 112, 111, 114, 116, 101, 114, 46, 101, 120, 101, 99, 95, 109, 111, 100, 117, 108, 101, 35, 111, 112, 97, 113, 117, 101, 6, 196, 8, 103, 101, 116, 95, 99, 111, 100, 101, 9, 49, 95, 102, 114, 111, 122, 101, 110, 95, 105, 109, 112, 111, 114, 116, 108, 105, 98, 46, 66, 117, 105, 108, 116, 105, 110, 73, 109, 112, 111, 114, 116, 101, 114, 46, 103, 101, 116, 95, 99, 111, 100, 101, 35, 111, 112, 97, 113, 117, 101, 6, 197, 10, 103, 101, 116, 95, 115, 111, 117, 114, 99, 101, 9, 51, 95, 102, 114, 111, 122, 101, 110, 95, 105, 109, 112, 111, 114, 116, 108, 105, 98, 46, 66, 117, 105, 108, 116, 105, 110, 73, 109, 112, 111, 114, 116, 101, 114, 46, 103, 101, 116, 95, 115, 111, 117, 114, 99, 101, 35, 111, 112, 97, 113, 117, 101, 6, 198, 10, 105, 115, 95, 112, 97, 99, 107, 97, 103, 101, 9, 51, 95, 102, 114, 111, 122, 101, 110, 95, 105, 109, 112, 111, 114, 116, 108, 105, 98, 46, 66, 117, 105, 108, 116, 105, 110, 73, 109, 112, 111, 114, 116, 101, 114, 46, 105, 115, 95, 112, 97, 99, 107, 97, 103, 101, 35, 111, 112, 97, 113, 117, 101, 6, 199, 11, 108, 111, 97, 100, 95, 109, 111, 100, 117, 108, 101, 9, 52, 95, 102, 114, 111, 122, 101, 110, 95, 105, 109, 112, 111, 114, 116, 108, 105, 98, 46, 66, 117, 105, 108, 116, 105, 110, 73, 109, 112, 111, 114, 116, 101, 114, 46, 108, 111, 97, 100, 95, 109, 111, 100, 117, 108, 101, 35, 111, 112, 97, 113, 117, 101, 6, 200, 21, 95, 95, 115, 116, 97, 116, 105, 99, 95, 97, 116, 116, 114, 105, 98, 117, 116, 101, 115, 95, 95, 4, 0, 0, 15, 6, 202, 8, 95, 95, 100, 105, 99, 116, 95, 95, 4, 0, 0, 16, 6, 204, 11, 95, 95, 119, 101, 97, 107, 114, 101, 102, 95, 95, 4, 0, 0, 17]⟩⟩
noncomputable def s208 : Str := ⟨⟨[6, 227, 10, 95, 95, 109, 111, 100, 117, 108, 101, 95, 95, 6, 217, 17, 95, 102, 114, 111, 122, 101, 110, 95, 105, 109, 112, 111, 114, 116, 108, 105, 98, 6, 228, 15, 95, 95, 102, 105, 114, 115, 116, 108, 105, 110, 101, 110, 111, 95, 95, 4, 218, 0, 562, 6, 229, 7, 95, 95, 100, 111, 99, 95, 95, 9, 47, 95, 102, 114, 111, 122, 101, 110, 95, 105, 109, 112, 111, 114, 116, 108, 105, 98, 46, 77, 111, 100, 117, 108, 101, 83, 112, 101, 99, 46, 95, 95, 100, 111, 99, 95, 95, 58, 115, 116, 114, 35, 111, 112, 97, 113, 117, 101, 6, 230, 8, 95, 95, 105, 110, 105, 116, 95, 95, 9, 44, 95, 102, 114, 111, 122, 101, 110, 95, 105, 109, 112, 111, 114, 116, 108, 105, 98, 46, 77, 111, 100, 117, 108, 101, 83, 112, 101, 99, 46, 95, 95, 105, 110, 105, 116, 95, 95, 35, 111, 112, 97, 113, 117, 101, 6, 231, 8, 95, 95, 114, 101, 112, 114, 95, 95, 9, 44, 95, 102, 114, 111, 122, 101, 110, 95, 105, 109, 112, 111, 114, 116, 108, 105, 98, 46, 77, 111, 100, 117, 108, 101, 83, 112, 101, 99, 46, 95, 95, 114, 101, 112, 114, 95, 95, 35, 111, 112, 97, 113, 117, 101, 6, 232, 6, 95, 95, 101, 113, 95, 95, 9, 42, 95, 102, 114, 111, 122, 101, 110, 95, 105, 109, 112, 111, 114, 116, 108, 105, 98, 46, 77, 111, 100, 117, 108, 101, 83, 112, 101, 99, 46, 95, 95, 101, 113, 95, 95, 35, 111, 112, 97, 113, 117, 101, 6, 233, 6, 99, 97, 99, 104, 101, 100, 9, 42, 95, 102, 114, 111, 122, 101, 110, 95, 105, 109, 112, 111, 114, 116, 108, 105, 98, 46, 77, 111, 100, 117, 108, 101, 83, 112, 101, 99, 46, 99, 97, 99, 104, 101, 100, 35, 111, 112, 97, 113, 117, 101, 6, 234, 6, 112, 97, 114, 101, 110, 116, 9, 42, 95, 102, 114, 111, 122, 101, 110, 95, 105, 109, 112, 111, 114, 116, 108, 105, 98, 46, 77, 111, 100, 117, 108, 101, 83, 112, 101, 99, 46, 112, 97, 114, 101, 110, 116, 35, 111, 112, 97, 113, 117, 101, 6, 235, 12, 104, 97, 115, 95, 108, 111, 99, 97, 116, 105, 111, 110, 9, 48, 95, 102, 114, 111, 122, 101, 110, 95, 105, 109, 112, 111, 114, 116, 108, 105, 98, 46, 77, 111, 100, 117, 108, 101, 83, 112, 101, 99, 46, 104, 97, 115, 95, 108, 111, 99, 97, 116, 105, 111, 110, 35, 111, 112, 97, 113, 117, 101, 6, 236, 21, 95, 95, 115, 116, 97, 116, 105, 99, 95, 97, 116, 116, 114, 105, 98, 117, 116, 101, 115, 95, 95, 4, 0, 0, 23, 6, 238, 8, 95, 95, 100, 105, 99, 116, 95, 95, 4, 0, 0, 24, 6, 240, 11, 95, 95, 119, 101, 97, 107, 114, 101, 102, 95, 95, 4, 0, 0, 25, 6, 241, 8, 95, 95, 104, 97, 115, 104, 95, 95, 0]⟩⟩
noncomputable def s209 : Str := ⟨⟨[110, 97, 109, 101]⟩⟩
noncomputable def s210 : Str := ⟨⟨[108, 111, 97, 100, 101, 114]⟩⟩
noncomputable def s211 : Str := ⟨⟨[111, 114, 105, 103, 105, 110]⟩⟩
noncomputable def s212 : Str := ⟨⟨[108, 111, 97, 100, 101, 114, 95, 115, 116, 97, 116, 101]⟩⟩
noncomputable def s213 : Str := ⟨⟨[115, 117, 98, 109, 111, 100, 117, 108, 101, 95, 115, 101, 97, 114, 99, 104, 95, 108, 111, 99, 97, 116, 105, 111, 110, 115]⟩⟩
noncomputable def s214 : Str := ⟨⟨[95, 117, 110, 105, 110, 105, 116, 105, 97, 108, 105, 122, 101, 100, 95, 115, 117, 98, 109, 111, 100, 117, 108, 101, 115]⟩⟩
noncomputable def s215 : Str := ⟨⟨[95, 115, 101, 116, 95, 102, 105, 108, 101, 97, 116, 116, 114]⟩⟩
noncomputable def s216 : Str := ⟨⟨[95, 99, 97, 99, 104, 101, 100]⟩⟩
noncomputable def s217 : Str := ⟨⟨[95, 105, 110, 105, 116, 105, 97, 108, 105, 122, 105, 110, 103]⟩⟩
noncomputable def s218 : Str := ⟨⟨[95, 95, 105, 110, 105, 116, 95, 95]⟩⟩
noncomputable def s219 : Str := ⟨⟨[95, 95, 114, 101, 112, 114, 95, 95]⟩⟩
noncomputable def s220 : Str := ⟨⟨[95, 95, 101, 113, 95, 95]⟩⟩
noncomputable def s221 : Str := ⟨⟨[99, 97, 99, 104, 101, 100]⟩⟩
noncomputable def s222 : Str := ⟨⟨[112, 97, 114, 101, 110, 116]⟩⟩
noncomputable def s223 : Str := ⟨⟨[104, 97, 115, 95, 108, 111, 99, 97, 116, 105, 111, 110]⟩⟩
noncomputable def s224 : Str := ⟨⟨[95, 95, 104, 97, 115, 104, 95, 95]⟩⟩
noncomputable def s225 : Str := ⟨⟨[77, 111, 100, 117, 108, 101, 83, 112, 101, 99]⟩⟩
noncomputable def s226 : Str := ⟨⟨[6, 247, 8, 95, 95, 110, 97, 109, 101, 95, 95, 6, 246, 4, 95, 115, 114, 101, 6, 248, 7, 95, 95, 100, 111, 99, 95, 95, 0, 6, 250, 11, 95, 95, 112, 97, 99, 107, 97, 103, 101, 95, 95, 6, 249, 0, 6, 251, 10, 95, 95, 108, 111, 97, 100, 101, 114, 95, 95, 4, 0, 0, 14, 6, 252, 8, 95, 95, 115, 112, 101, 99, 95, 95, 4, 0, 0, 26, 6, 253, 7, 99, 111, 109, 112, 105, 108, 101, 9, 12, 95, 115, 114, 101, 46, 99, 111, 109, 112, 105, 108, 101, 6, 254, 8, 116, 101, 109, 112, 108, 97, 116, 101, 9, 13, 95, 115, 114, 101, 46, 116, 101, 109, 112, 108, 97, 116, 101, 6, 255, 11, 103, 101, 116, 99, 111, 100, 101, 115, 105, 122, 101, 9, 16, 95, 115, 114, 101, 46, 103, 101, 116, 99, 111, 100, 101, 115, 105, 122, 101, 6, 256, 13, 97, 115, 99, 105, 105, 95, 105, 115, 99, 97, 115, 101, 100, 9, 18, 95, 115, 114, 101, 46, 97, 115, 99, 105, 105, 95, 105, 115, 99, 97, 115, 101, 100, 6, 257, 15, 117, 110, 105, 99, 111, 100, 101, 95, 105, 115, 99, 97, 115, 101, 100, 9, 20, 95, 115, 114, 101, 46, 117, 110, 105, 99, 111, 100, 101, 95, 105, 115, 99, 97, 115, 101, 100, 6, 258, 13, 97, 115, 99, 105, 105, 95, 116, 111, 108, 111, 119, 101, 114, 9, 18, 95, 115, 114, 101, 46, 97, 115, 99, 105, 105, 95, 116, 111, 108, 111, 119, 101, 114, 6, 259, 15, 117, 110, 105, 99, 111, 100, 101, 95, 116, 111, 108, 111, 119, 101, 114, 9, 20, 95, 115, 114, 101, 46, 117, 110, 105, 99, 111, 100, 101, 95, 116, 111, 108, 111, 119, 101, 114, 6, 261, 5, 77, 65, 71, 73, 67, 4, 260, 0, 20230612, 6, 263, 8, 67, 79, 68, 69, 83, 73, 90, 69, 4, 262, 0, 4, 6, 265, 9, 77, 65, 88, 82, 69, 80, 69, 65, 84, 4, 264, 0, 4294967295, 6, 267, 9, 77, 65, 88, 71, 82, 79, 85, 80, 83, 4, 266, 0, 1073741823, 6, 269, 9, 99, 111, 112, 121, 114, 105, 103, 104, 116, 6, 268, 53, 32, 83, 82, 69, 32, 50, 46, 50, 46, 50, 32, 67, 111, 112, 121, 114, 105, 103, 104, 116, 32, 40, 99, 41, 32, 49, 57, 57, 55, 45, 50, 48, 48, 50, 32, 98, 121, 32, 83, 101, 99, 114, 101, 116, 32, 76, 97, 98, 115, 32, 65, 66, 32]⟩⟩
noncomputable def s227 : Str := ⟨⟨[95, 119, 97, 108, 108]⟩⟩
noncomputable def s228 : Str := ⟨⟨[107]⟩⟩
noncomputable def s229 : Str := ⟨⟨[99, 112, 121, 51, 49, 51, 46, 101, 109, 97, 105, 108, 46, 104, 101, 97, 100, 101, 114]⟩⟩
noncomputable def s230 : Str := ⟨⟨[69, 77, 80, 84, 89, 83, 84, 82, 73, 78, 71]⟩⟩
noncomputable def s231 : Str := ⟨⟨[95, 65, 99, 99, 117, 109, 117, 108, 97, 116, 111, 114]⟩⟩
noncomputable def s232 : Str := ⟨⟨[95, 95, 113, 117, 97, 108, 110, 97, 109, 101, 95, 95]⟩⟩
noncomputable def s233 : Str := ⟨⟨[112, 117, 115, 104]⟩⟩
noncomputable def s234 : Str := ⟨⟨[112, 111, 112, 95, 102, 114, 111, 109]⟩⟩
noncomputable def s235 : Str := ⟨⟨[112, 111, 112]⟩⟩
noncomputable def s236 : Str := ⟨⟨[95, 95, 108, 101, 110, 95, 95]⟩⟩
noncomputable def s237 : Str := ⟨⟨[95, 95, 115, 116, 114, 95, 95]⟩⟩
noncomputable def s238 : Str := ⟨⟨[114, 101, 115, 101, 116]⟩⟩
noncomputable def s239 : Str := ⟨⟨[105, 115, 95, 111, 110, 108, 121, 119, 115]⟩⟩
noncomputable def s240 : Str := ⟨⟨[112, 97, 114, 116, 95, 99, 111, 117, 110, 116]⟩⟩
noncomputable def s241 : Str := ⟨⟨[95, 95, 99, 108, 97, 115, 115, 99, 101, 108, 108, 95, 95]⟩⟩
noncomputable def s242 : Str := ⟨⟨[95, 95, 99, 108, 97, 115, 115, 95, 95]⟩⟩
noncomputable def s243 : Str := ⟨⟨[115, 101, 108, 102]⟩⟩
noncomputable def s244 : Str := ⟨⟨[105, 110, 105, 116, 105, 97, 108, 95, 115, 105, 122, 101]⟩⟩
noncomputable def s245 : Str := ⟨⟨[95, 65, 99, 99, 117, 109, 117, 108, 97, 116, 111, 114, 46, 95, 95, 105, 110, 105, 116, 95, 95]⟩⟩
noncomputable def s246 : Str := ⟨⟨[102, 119, 115]⟩⟩
noncomputable def s247 : Str := ⟨⟨[115, 116, 114, 105, 110, 103]⟩⟩
noncomputable def s248 : Str := ⟨⟨[95, 65, 99, 99, 117, 109, 117, 108, 97, 116, 111, 114, 46, 112, 117, 115, 104]⟩⟩
noncomputable def s249 : Str := ⟨⟨[105]⟩⟩
noncomputable def s250 : Str := ⟨⟨[95, 65, 99, 99, 117, 109, 117, 108, 97, 116, 111, 114, 46, 112, 111, 112, 95, 102, 114, 111, 109]⟩⟩
noncomputable def s251 : Str := ⟨⟨[95, 65, 99, 99, 117, 109, 117, 108, 97, 116, 111, 114, 46, 112, 111, 112]⟩⟩
noncomputable def s252 : Str := ⟨⟨[95, 65, 99, 99, 117, 109, 117, 108, 97, 116, 111, 114, 46, 95, 95, 108, 101, 110, 95, 95]⟩⟩
noncomputable def s253 : Str := ⟨⟨[95, 65, 99, 99, 117, 109, 117, 108, 97, 116, 111, 114, 46, 95, 95, 115, 116, 114, 95, 95]⟩⟩
noncomputable def s254 : Str := ⟨⟨[115, 116, 97, 114, 116, 118, 97, 108]⟩⟩
noncomputable def s255 : Str := ⟨⟨[95, 65, 99, 99, 117, 109, 117, 108, 97, 116, 111, 114, 46, 114, 101, 115, 101, 116]⟩⟩
noncomputable def s256 : Str := ⟨⟨[95, 65, 99, 99, 117, 109, 117, 108, 97, 116, 111, 114, 46, 105, 115, 95, 111, 110, 108, 121, 119, 115]⟩⟩
noncomputable def s257 : Str := ⟨⟨[95, 65, 99, 99, 117, 109, 117, 108, 97, 116, 111, 114, 46, 112, 97, 114, 116, 95, 99, 111, 117, 110, 116]⟩⟩
noncomputable def s258 : Str := ⟨⟨[95, 105, 110, 105, 116, 105, 97, 108, 95, 115, 105, 122, 101]⟩⟩
noncomputable def s259 : Str := ⟨⟨[99, 112, 121, 51, 49, 51, 46, 115, 116, 114, 105, 110, 103, 112, 114, 101, 112]⟩⟩
noncomputable def s260 : Str := ⟨⟨[98, 49, 95, 115, 101, 116]⟩⟩
noncomputable def s261 : Str := ⟨⟨[105, 110, 95, 116, 97, 98, 108, 101, 95, 98, 49]⟩⟩
noncomputable def s262 : Str := ⟨⟨[99, 111, 100, 101]⟩⟩
noncomputable def s263 : Str := ⟨⟨[98, 51, 95, 101, 120, 99, 101, 112, 116, 105, 111, 110, 115]⟩⟩
noncomputable def s264 : Str := ⟨⟨[956]⟩⟩
noncomputable def s265 : Str := ⟨⟨[115, 115]⟩⟩
noncomputable def s266 : Str := ⟨⟨[105, 775]⟩⟩
noncomputable def s267 : Str := ⟨⟨[700, 110]⟩⟩
noncomputable def s268 : Str := ⟨⟨[115]⟩⟩
noncomputable def s269 : Str := ⟨⟨[106, 780]⟩⟩
noncomputable def s270 : Str := ⟨⟨[953]⟩⟩
noncomputable def s271 : Str := ⟨⟨[32, 953]⟩⟩
noncomputable def s272 : Str := ⟨⟨[953, 776, 769]⟩⟩
noncomputable def s273 : Str := ⟨⟨[965, 776, 769]⟩⟩
noncomputable def s274 : Str := ⟨⟨[963]⟩⟩
noncomputable def s275 : Str := ⟨⟨[946]⟩⟩
noncomputable def s276 : Str := ⟨⟨[952]⟩⟩
noncomputable def s277 : Str := ⟨⟨[965]⟩⟩
noncomputable def s278 : Str := ⟨⟨[973]⟩⟩
noncomputable def s279 : Str := ⟨⟨[971]⟩⟩
noncomputable def s280 : Str := ⟨⟨[966]⟩⟩
noncomputable def s281 : Str := ⟨⟨[960]⟩⟩
noncomputable def s282 : Str := ⟨⟨[954]⟩⟩
noncomputable def s283 : Str := ⟨⟨[961]⟩⟩
noncomputable def s284 : Str := ⟨⟨[949]⟩⟩
noncomputable def s285 : Str := ⟨⟨[1381, 1410]⟩⟩
noncomputable def s286 : Str := ⟨⟨[104, 817]⟩⟩
noncomputable def s287 : Str := ⟨⟨[116, 776]⟩⟩
noncomputable def s288 : Str := ⟨⟨[119, 778]⟩⟩
noncomputable def s289 : Str := ⟨⟨[121, 778]⟩⟩
noncomputable def s290 : Str := ⟨⟨[97, 702]⟩⟩
noncomputable def s291 : Str := ⟨⟨[7777]⟩⟩
noncomputable def s292 : Str := ⟨⟨[965, 787]⟩⟩
noncomputable def s293 : Str := ⟨⟨[965, 787, 768]⟩⟩
noncomputable def s294 : Str := ⟨⟨[965, 787, 769]⟩⟩
noncomputable def s295 : Str := ⟨⟨[965, 787, 834]⟩⟩
noncomputable def s296 : Str := ⟨⟨[7936, 953]⟩⟩
noncomputable def s297 : Str := ⟨⟨[7937, 953]⟩⟩
noncomputable def s298 : Str := ⟨⟨[7938, 953]⟩⟩
noncomputable def s299 : Str := ⟨⟨[7939, 953]⟩⟩
noncomputable def s300 : Str := ⟨⟨[7940, 953]⟩⟩
noncomputable def s301 : Str := ⟨⟨[7941, 953]⟩⟩
noncomputable def s302 : Str := ⟨⟨[7942, 953]⟩⟩
noncomputable def s303 : Str := ⟨⟨[7943, 953]⟩⟩
noncomputable def s304 : Str := ⟨⟨[7968, 953]⟩⟩
noncomputable def s305 : Str := ⟨⟨[7969, 953]⟩⟩
noncomputable def s306 : Str := ⟨⟨[7970, 953]⟩⟩
noncomputable def s307 : Str := ⟨⟨[7971, 953]⟩⟩
noncomputable def s308 : Str := ⟨⟨[7972, 953]⟩⟩
noncomputable def s309 : Str := ⟨⟨[7973, 953]⟩⟩
noncomputable def s310 : Str := ⟨⟨[7974, 953]⟩⟩
noncomputable def s311 : Str := ⟨⟨[7975, 953]⟩⟩
noncomputable def s312 : Str := ⟨⟨[8032, 953]⟩⟩
noncomputable def s313 : Str := ⟨⟨[8033, 953]⟩⟩
noncomputable def s314 : Str := ⟨⟨[8034, 953]⟩⟩
noncomputable def s315 : Str := ⟨⟨[8035, 953]⟩⟩
noncomputable def s316 : Str := ⟨⟨[8036, 953]⟩⟩
noncomputable def s317 : Str := ⟨⟨[8037, 953]⟩⟩
noncomputable def s318 : Str := ⟨⟨[8038, 953]⟩⟩
noncomputable def s319 : Str := ⟨⟨[8039, 953]⟩⟩
noncomputable def s320 : Str := ⟨⟨[8048, 953]⟩⟩
noncomputable def s321 : Str := ⟨⟨[945, 953]⟩⟩
noncomputable def s322 : Str := ⟨⟨[940, 953]⟩⟩
noncomputable def s323 : Str := ⟨⟨[945, 834]⟩⟩
noncomputable def s324 : Str := ⟨⟨[945, 834, 953]⟩⟩
noncomputable def s325 : Str := ⟨⟨[8052, 953]⟩⟩
noncomputable def s326 : Str := ⟨⟨[951, 953]⟩⟩
noncomputable def s327 : Str := ⟨⟨[942, 953]⟩⟩
noncomputable def s328 : Str := ⟨⟨[951, 834]⟩⟩
noncomputable def s329 : Str := ⟨⟨[951, 834, 953]⟩⟩
noncomputable def s330 : Str := ⟨⟨[953, 776, 768]⟩⟩
noncomputable def s331 : Str := ⟨⟨[953, 834]⟩⟩
noncomputable def s332 : Str := ⟨⟨[953, 776, 834]⟩⟩
noncomputable def s333 : Str := ⟨⟨[965, 776, 768]⟩⟩
noncomputable def s334 : Str := ⟨⟨[961, 787]⟩⟩
noncomputable def s335 : Str := ⟨⟨[965, 834]⟩⟩
noncomputable def s336 : Str := ⟨⟨[965, 776, 834]⟩⟩
noncomputable def s337 : Str := ⟨⟨[8060, 953]⟩⟩
noncomputable def s338 : Str := ⟨⟨[969, 953]⟩⟩
noncomputable def s339 : Str := ⟨⟨[974, 953]⟩⟩
noncomputable def s340 : Str := ⟨⟨[969, 834]⟩⟩
noncomputable def s341 : Str := ⟨⟨[969, 834, 953]⟩⟩
noncomputable def s342 : Str := ⟨⟨[114, 115]⟩⟩
noncomputable def s343 : Str := ⟨⟨[99]⟩⟩
noncomputable def s344 : Str := ⟨⟨[176, 99]⟩⟩
noncomputable def s345 : Str := ⟨⟨[603]⟩⟩
noncomputable def s346 : Str := ⟨⟨[176, 102]⟩⟩
noncomputable def s347 : Str := ⟨⟨[104]⟩⟩
noncomputable def s348 : Str := ⟨⟨[108]⟩⟩
noncomputable def s349 : Str := ⟨⟨[110]⟩⟩
noncomputable def s350 : Str := ⟨⟨[110, 111]⟩⟩
noncomputable def s351 : Str := ⟨⟨[112]⟩⟩
noncomputable def s352 : Str := ⟨⟨[113]⟩⟩
noncomputable def s353 : Str := ⟨⟨[114]⟩⟩
noncomputable def s354 : Str := ⟨⟨[115, 109]⟩⟩
noncomputable def s355 : Str := ⟨⟨[116, 101, 108]⟩⟩
noncomputable def s356 : Str := ⟨⟨[116, 109]⟩⟩
noncomputable def s357 : Str := ⟨⟨[122]⟩⟩
noncomputable def s358 : Str := ⟨⟨[98]⟩⟩
noncomputable def s359 : Str := ⟨⟨[101]⟩⟩
noncomputable def s360 : Str := ⟨⟨[102]⟩⟩
noncomputable def s361 : Str := ⟨⟨[109]⟩⟩
noncomputable def s362 : Str := ⟨⟨[947]⟩⟩
noncomputable def s363 : Str := ⟨⟨[100]⟩⟩
noncomputable def s364 : Str := ⟨⟨[104, 112, 97]⟩⟩
noncomputable def s365 : Str := ⟨⟨[97, 117]⟩⟩
noncomputable def s366 : Str := ⟨⟨[111, 118]⟩⟩
noncomputable def s367 : Str := ⟨⟨[112, 97]⟩⟩
noncomputable def s368 : Str := ⟨⟨[110, 97]⟩⟩
noncomputable def s369 : Str := ⟨⟨[956, 97]⟩⟩
noncomputable def s370 : Str := ⟨⟨[109, 97]⟩⟩
noncomputable def s371 : Str := ⟨⟨[107, 97]⟩⟩
noncomputable def s372 : Str := ⟨⟨[107, 98]⟩⟩
noncomputable def s373 : Str := ⟨⟨[109, 98]⟩⟩
noncomputable def s374 : Str := ⟨⟨[103, 98]⟩⟩
noncomputable def s375 : Str := ⟨⟨[112, 102]⟩⟩
noncomputable def s376 : Str := ⟨⟨[110, 102]⟩⟩
noncomputable def s377 : Str := ⟨⟨[956, 102]⟩⟩
noncomputable def s378 : Str := ⟨⟨[104, 122]⟩⟩
noncomputable def s379 : Str := ⟨⟨[107, 104, 122]⟩⟩
noncomputable def s380 : Str := ⟨⟨[109, 104, 122]⟩⟩
noncomputable def s381 : Str := ⟨⟨[103, 104, 122]⟩⟩
noncomputable def s382 : Str := ⟨⟨[116, 104, 122]⟩⟩
noncomputable def s383 : Str := ⟨⟨[107, 112, 97]⟩⟩
noncomputable def s384 : Str := ⟨⟨[109, 112, 97]⟩⟩
noncomputable def s385 : Str := ⟨⟨[103, 112, 97]⟩⟩
noncomputable def s386 : Str := ⟨⟨[112, 118]⟩⟩
noncomputable def s387 : Str := ⟨⟨[110, 118]⟩⟩
noncomputable def s388 : Str := ⟨⟨[956, 118]⟩⟩
noncomputable def s389 : Str := ⟨⟨[109, 118]⟩⟩
noncomputable def s390 : Str := ⟨⟨[107, 118]⟩⟩
noncomputable def s391 : Str := ⟨⟨[112, 119]⟩⟩
noncomputable def s392 : Str := ⟨⟨[110, 119]⟩⟩
noncomputable def s393 : Str := ⟨⟨[956, 119]⟩⟩
noncomputable def s394 : Str := ⟨⟨[109, 119]⟩⟩
noncomputable def s395 : Str := ⟨⟨[107, 119]⟩⟩
noncomputable def s396 : Str := ⟨⟨[107, 969]⟩⟩
noncomputable def s397 : Str := ⟨⟨[109, 969]⟩⟩
noncomputable def s398 : Str := ⟨⟨[98, 113]⟩⟩
noncomputable def s399 : Str := ⟨⟨[99, 8725, 107, 103]⟩⟩
noncomputable def s400 : Str := ⟨⟨[99, 111, 46]⟩⟩
noncomputable def s401 : Str := ⟨⟨[100, 98]⟩⟩
noncomputable def s402 : Str := ⟨⟨[103, 121]⟩⟩
noncomputable def s403 : Str := ⟨⟨[104, 112]⟩⟩
noncomputable def s404 : Str := ⟨⟨[107, 107]⟩⟩
noncomputable def s405 : Str := ⟨⟨[107, 109]⟩⟩
noncomputable def s406 : Str := ⟨⟨[112, 104]⟩⟩
noncomputable def s407 : Str := ⟨⟨[112, 112, 109]⟩⟩
noncomputable def s408 : Str := ⟨⟨[112, 114]⟩⟩
noncomputable def s409 : Str := ⟨⟨[115, 118]⟩⟩
noncomputable def s410 : Str := ⟨⟨[119, 98]⟩⟩
noncomputable def s411 : Str := ⟨⟨[102, 102]⟩⟩
noncomputable def s412 : Str := ⟨⟨[102, 105]⟩⟩
noncomputable def s413 : Str := ⟨⟨[102, 108]⟩⟩
noncomputable def s414 : Str := ⟨⟨[102, 102, 105]⟩⟩
noncomputable def s415 : Str := ⟨⟨[102, 102, 108]⟩⟩
noncomputable def s416 : Str := ⟨⟨[115, 116]⟩⟩
noncomputable def s417 : Str := ⟨⟨[1396, 1398]⟩⟩
noncomputable def s418 : Str := ⟨⟨[1396, 1381]⟩⟩
noncomputable def s419 : Str := ⟨⟨[1396, 1387]⟩⟩
noncomputable def s420 : Str := ⟨⟨[1406, 1398]⟩⟩
noncomputable def s421 : Str := ⟨⟨[1396, 1389]⟩⟩
noncomputable def s422 : Str := ⟨⟨[97]⟩⟩
noncomputable def s423 : Str := ⟨⟨[103]⟩⟩
noncomputable def s424 : Str := ⟨⟨[106]⟩⟩
noncomputable def s425 : Str := ⟨⟨[111]⟩⟩
noncomputable def s426 : Str := ⟨⟨[116]⟩⟩
noncomputable def s427 : Str := ⟨⟨[117]⟩⟩
noncomputable def s428 : Str := ⟨⟨[118]⟩⟩
noncomputable def s429 : Str := ⟨⟨[119]⟩⟩
noncomputable def s430 : Str := ⟨⟨[120]⟩⟩
noncomputable def s431 : Str := ⟨⟨[121]⟩⟩
noncomputable def s432 : Str := ⟨⟨[945]⟩⟩
noncomputable def s433 : Str := ⟨⟨[948]⟩⟩
noncomputable def s434 : Str := ⟨⟨[950]⟩⟩
noncomputable def s435 : Str := ⟨⟨[951]⟩⟩
noncomputable def s436 : Str := ⟨⟨[955]⟩⟩
noncomputable def s437 : Str := ⟨⟨[957]⟩⟩
noncomputable def s438 : Str := ⟨⟨[958]⟩⟩
noncomputable def s439 : Str := ⟨⟨[959]⟩⟩
noncomputable def s440 : Str := ⟨⟨[964]⟩⟩
noncomputable def s441 : Str := ⟨⟨[967]⟩⟩
noncomputable def s442 : Str := ⟨⟨[968]⟩⟩
noncomputable def s443 : Str := ⟨⟨[969]⟩⟩
noncomputable def s444 : Str := ⟨⟨[109, 97, 112, 95, 116, 97, 98, 108, 101, 95, 98, 51]⟩⟩
noncomputable def s445 : Str := ⟨⟨[99, 112, 121, 51, 49, 51, 46, 119, 115, 103, 105, 114, 101, 102, 46, 104, 101, 97, 100, 101, 114, 115]⟩⟩
noncomputable def s446 : Str := ⟨⟨[116, 115, 112, 101, 99, 105, 97, 108, 115]⟩⟩
noncomputable def s447 : Str := ⟨⟨[91, 32, 92, 40, 92, 41, 60, 62, 64, 44, 59, 58, 92, 92, 34, 47, 92, 91, 92, 93, 92, 63, 61, 93]⟩⟩
noncomputable def s448 : Str := ⟨⟨[95, 110, 97, 109, 101, 95, 100, 105, 115, 97, 108, 108, 111, 119, 101, 100, 95, 114, 101]⟩⟩
noncomputable def s449 : Str := ⟨⟨[91, 92, 120, 48, 48, 45, 92, 120, 49, 70, 92, 120, 55, 70, 93]⟩⟩
noncomputable def s450 : Str := ⟨⟨[95, 118, 97, 108, 117, 101, 95, 100, 105, 115, 97, 108, 108, 111, 119, 101, 100, 95, 114, 101]⟩⟩
noncomputable def s451 : Str := ⟨⟨[91, 92, 120, 48, 48, 45, 92, 120, 48, 56, 92, 120, 48, 65, 45, 92, 120, 49, 70, 92, 120, 55, 70, 93]⟩⟩
noncomputable def s452 : Str := ⟨⟨[95, 102, 111, 114, 109, 97, 116, 112, 97, 114, 97, 109]⟩⟩
noncomputable def s453 : Str := ⟨⟨[112, 97, 114, 97, 109]⟩⟩
noncomputable def s454 : Str := ⟨⟨[118, 97, 108, 117, 101]⟩⟩
noncomputable def s455 : Str := ⟨⟨[113, 117, 111, 116, 101]⟩⟩
noncomputable def s456 : Str := ⟨⟨[72, 101, 97, 100, 101, 114, 115]⟩⟩
noncomputable def s457 : Str := ⟨⟨[95, 99, 111, 110, 118, 101, 114, 116, 95, 115, 116, 114, 105, 110, 103, 95, 116, 121, 112, 101]⟩⟩
noncomputable def s458 : Str := ⟨⟨[95, 95, 115, 101, 116, 105, 116, 101, 109, 95, 95]⟩⟩
noncomputable def s459 : Str := ⟨⟨[95, 95, 100, 101, 108, 105, 116, 101, 109, 95, 95]⟩⟩
noncomputable def s460 : Str := ⟨⟨[95, 95, 103, 101, 116, 105, 116, 101, 109, 95, 95]⟩⟩
noncomputable def s461 : Str := ⟨⟨[95, 95, 99, 111, 110, 116, 97, 105, 110, 115, 95, 95]⟩⟩
noncomputable def s462 : Str := ⟨⟨[103, 101, 116, 95, 97, 108, 108]⟩⟩
noncomputable def s463 : Str := ⟨⟨[103, 101, 116]⟩⟩
noncomputable def s464 : Str := ⟨⟨[107, 101, 121, 115]⟩⟩
noncomputable def s465 : Str := ⟨⟨[118, 97, 108, 117, 101, 115]⟩⟩
noncomputable def s466 : Str := ⟨⟨[105, 116, 101, 109, 115]⟩⟩
noncomputable def s467 : Str := ⟨⟨[95, 95, 98, 121, 116, 101, 115, 95, 95]⟩⟩
noncomputable def s468 : Str := ⟨⟨[115, 101, 116, 100, 101, 102, 97, 117, 108, 116]⟩⟩
noncomputable def s469 : Str := ⟨⟨[97, 100, 100, 95, 104, 101, 97, 100, 101, 114]⟩⟩
noncomputable def s470 : Str := ⟨⟨[104, 101, 97, 100, 101, 114, 115]⟩⟩
noncomputable def s471 : Str := ⟨⟨[72, 101, 97, 100, 101, 114, 115, 46, 95, 95, 105, 110, 105, 116, 95, 95]⟩⟩
noncomputable def s472 : Str := ⟨⟨[114, 101, 103, 101, 120]⟩⟩
noncomputable def s473 : Str := ⟨⟨[72, 101, 97, 100, 101, 114, 115, 46, 95, 99, 111, 110, 118, 101, 114, 116, 95, 115, 116, 114, 105, 110, 103, 95, 116, 121, 112, 101]⟩⟩
noncomputable def s474 : Str := ⟨⟨[72, 101, 97, 100, 101, 114, 115, 46, 95, 95, 108, 101, 110, 95, 95]⟩⟩
noncomputable def s475 : Str := ⟨⟨[118, 97, 108]⟩⟩
noncomputable def s476 : Str := ⟨⟨[72, 101, 97, 100, 101, 114, 115, 46, 95, 95, 115, 101, 116, 105, 116, 101, 109, 95, 95]⟩⟩
noncomputable def s477 : Str := ⟨⟨[72, 101, 97, 100, 101, 114, 115, 46, 95, 95, 100, 101, 108, 105, 116, 101, 109, 95, 95]⟩⟩
noncomputable def s478 : Str := ⟨⟨[72, 101, 97, 100, 101, 114, 115, 46, 95, 95, 103, 101, 116, 105, 116, 101, 109, 95, 95]⟩⟩
noncomputable def s479 : Str := ⟨⟨[72, 101, 97, 100, 101, 114, 115, 46, 95, 95, 99, 111, 110, 116, 97, 105, 110, 115, 95, 95]⟩⟩
noncomputable def s480 : Str := ⟨⟨[72, 101, 97, 100, 101, 114, 115, 46, 103, 101, 116, 95, 97, 108, 108]⟩⟩
noncomputable def s481 : Str := ⟨⟨[100, 101, 102, 97, 117, 108, 116]⟩⟩
noncomputable def s482 : Str := ⟨⟨[72, 101, 97, 100, 101, 114, 115, 46, 103, 101, 116]⟩⟩
noncomputable def s483 : Str := ⟨⟨[72, 101, 97, 100, 101, 114, 115, 46, 107, 101, 121, 115]⟩⟩
noncomputable def s484 : Str := ⟨⟨[72, 101, 97, 100, 101, 114, 115, 46, 118, 97, 108, 117, 101, 115]⟩⟩
noncomputable def s485 : Str := ⟨⟨[72, 101, 97, 100, 101, 114, 115, 46, 105, 116, 101, 109, 115]⟩⟩
noncomputable def s486 : Str := ⟨⟨[72, 101, 97, 100, 101, 114, 115, 46, 95, 95, 114, 101, 112, 114, 95, 95]⟩⟩
noncomputable def s487 : Str := ⟨⟨[72, 101, 97, 100, 101, 114, 115, 46, 95, 95, 115, 116, 114, 95, 95]⟩⟩
noncomputable def s488 : Str := ⟨⟨[72, 101, 97, 100, 101, 114, 115, 46, 95, 95, 98, 121, 116, 101, 115, 95, 95]⟩⟩
noncomputable def s489 : Str := ⟨⟨[72, 101, 97, 100, 101, 114, 115, 46, 115, 101, 116, 100, 101, 102, 97, 117, 108, 116]⟩⟩
noncomputable def s490 : Str := ⟨⟨[95, 110, 97, 109, 101]⟩⟩
noncomputable def s491 : Str := ⟨⟨[95, 118, 97, 108, 117, 101]⟩⟩
noncomputable def s492 : Str := ⟨⟨[95, 112, 97, 114, 97, 109, 115]⟩⟩
noncomputable def s493 : Str := ⟨⟨[112, 97, 114, 116, 115]⟩⟩
noncomputable def s494 : Str := ⟨⟨[72, 101, 97, 100, 101, 114, 115, 46, 97, 100, 100, 95, 104, 101, 97, 100, 101, 114]⟩⟩
noncomputable def s495 : Str := ⟨⟨[95, 104, 101, 97, 100, 101, 114, 115]⟩⟩
noncomputable def s496 : Str := ⟨⟨[108, 97, 119, 95, 119, 107, 48, 48, 53, 49, 95, 48, 49]⟩⟩
noncomputable def s497 : Str := ⟨⟨[95, 108, 97, 119, 95, 114, 101, 97, 100]⟩⟩
noncomputable def s498 : Str := ⟨⟨[95, 108, 97, 119, 95, 115, 105, 100, 101, 115]⟩⟩
noncomputable def s499 : Str := ⟨⟨[114, 111, 119]⟩⟩
noncomputable def s500 : Str := ⟨⟨[111, 114, 100, 101, 114]⟩⟩
noncomputable def s501 : Str := ⟨⟨[115, 105, 100, 101, 115]⟩⟩
noncomputable def s502 : Str := ⟨⟨[99, 111, 117, 110, 116]⟩⟩
noncomputable def s503 : Str := ⟨⟨[112, 105, 108, 101]⟩⟩
noncomputable def s504 : Str := ⟨⟨[115, 105, 100, 101]⟩⟩
noncomputable def s505 : Str := ⟨⟨[108, 105, 110, 101]⟩⟩
noncomputable def s506 : Str := ⟨⟨[108, 105, 110, 101, 115]⟩⟩
noncomputable def s507 : Str := ⟨⟨[95, 108, 97, 119, 95, 115, 101, 116]⟩⟩
noncomputable def s508 : Str := ⟨⟨[95, 108, 97, 119, 95, 114, 105, 110, 103, 115]⟩⟩
noncomputable def s509 : Str := ⟨⟨[114, 105, 110, 103, 115]⟩⟩
noncomputable def s510 : Str := ⟨⟨[114, 105, 110, 103]⟩⟩
noncomputable def s511 : Str := ⟨⟨[109, 97, 116, 101]⟩⟩
noncomputable def s512 : Str := ⟨⟨[95, 108, 97, 119, 95, 114, 117, 110]⟩⟩
noncomputable def s513 : Str := ⟨⟨[108, 97, 119]⟩⟩
noncomputable def entL : Nat → List (Int × Str) → List DictEntry
  | _, [] => []
  | t, kv :: r => ⟨kv.1, .int kv.1 t, .str kv.2 (t + 1)⟩ :: entL (t + 3) r
noncomputable def entS : Nat → List (Int × Str) → List DictEntry
  | _, [] => []
  | t, kv :: r => ⟨kv.1, .int kv.1 t, .str kv.2 (t + 1)⟩ :: entS (t + 2) r
noncomputable abbrev dictO (es : List DictEntry) (n : Nat) : Obj := ⟨.type "dict", none, .dict ⟨es⟩ n, ⟨[]⟩⟩
noncomputable def kv0 : List (Int × Str) := [(181, s264), (223, s265), (304, s266), (329, s267), (383, s268), (496, s269), (837, s270), (890, s271), (912, s272), (944, s273), (962, s274), (976, s275), (977, s276), (978, s277), (979, s278), (980, s279), (981, s280)]
noncomputable def kv1 : List (Int × Str) := [(982, s281), (1008, s282), (1009, s283), (1010, s274), (1013, s284), (1415, s285), (7830, s286), (7831, s287), (7832, s288), (7833, s289), (7834, s290), (7835, s291), (8016, s292), (8018, s293), (8020, s294), (8022, s295), (8064, s296)]
noncomputable def kv2 : List (Int × Str) := [(8065, s297), (8066, s298), (8067, s299), (8068, s300), (8069, s301), (8070, s302), (8071, s303), (8072, s296), (8073, s297), (8074, s298), (8075, s299), (8076, s300), (8077, s301), (8078, s302), (8079, s303), (8080, s304), (8081, s305)]
noncomputable def kv3 : List (Int × Str) := [(8082, s306), (8083, s307), (8084, s308), (8085, s309), (8086, s310), (8087, s311), (8088, s304), (8089, s305), (8090, s306), (8091, s307), (8092, s308), (8093, s309), (8094, s310), (8095, s311), (8096, s312), (8097, s313), (8098, s314)]
noncomputable def kv4 : List (Int × Str) := [(8099, s315), (8100, s316), (8101, s317), (8102, s318), (8103, s319), (8104, s312), (8105, s313), (8106, s314), (8107, s315), (8108, s316), (8109, s317), (8110, s318), (8111, s319), (8114, s320), (8115, s321), (8116, s322), (8118, s323)]
noncomputable def kv5 : List (Int × Str) := [(8119, s324), (8124, s321), (8126, s270), (8130, s325), (8131, s326), (8132, s327), (8134, s328), (8135, s329), (8140, s326), (8146, s330), (8147, s272), (8150, s331), (8151, s332), (8162, s333), (8163, s273), (8164, s334), (8166, s335)]
noncomputable def kv6 : List (Int × Str) := [(8167, s336), (8178, s337), (8179, s338), (8180, s339), (8182, s340), (8183, s341), (8188, s338), (8360, s342), (8450, s343), (8451, s344), (8455, s345), (8457, s346), (8459, s347), (8460, s347), (8461, s347), (8464, s249), (8465, s249)]
noncomputable def kv7 : List (Int × Str) := [(8466, s348), (8469, s349), (8470, s350), (8473, s351), (8474, s352), (8475, s353), (8476, s353), (8477, s353), (8480, s354), (8481, s355), (8482, s356), (8484, s357), (8488, s357), (8492, s358), (8493, s343), (8496, s359), (8497, s360)]
noncomputable def kv8 : List (Int × Str) := [(8499, s361), (8510, s362), (8511, s281), (8517, s363), (13169, s364), (13171, s365), (13173, s366), (13184, s367), (13185, s368), (13186, s369), (13187, s370), (13188, s371), (13189, s372), (13190, s373), (13191, s374), (13194, s375), (13195, s376)]
noncomputable def kv9 : List (Int × Str) := [(13196, s377), (13200, s378), (13201, s379), (13202, s380), (13203, s381), (13204, s382), (13225, s367), (13226, s383), (13227, s384), (13228, s385), (13236, s386), (13237, s387), (13238, s388), (13239, s389), (13240, s390), (13241, s389), (13242, s391)]
noncomputable def kv10 : List (Int × Str) := [(13243, s392), (13244, s393), (13245, s394), (13246, s395), (13247, s394), (13248, s396), (13249, s397), (13251, s398), (13254, s399), (13255, s400), (13256, s401), (13257, s402), (13259, s403), (13261, s404), (13262, s405), (13271, s406), (13273, s407)]
noncomputable def kv11 : List (Int × Str) := [(13274, s408), (13276, s409), (13277, s410), (64256, s411), (64257, s412), (64258, s413), (64259, s414), (64260, s415), (64261, s416), (64262, s416), (64275, s417), (64276, s418), (64277, s419), (64278, s420), (64279, s421), (119808, s422), (119809, s358)]
noncomputable def kv12 : List (Int × Str) := [(119810, s343), (119811, s363), (119812, s359), (119813, s360), (119814, s423), (119815, s347), (119816, s249), (119817, s424), (119818, s228), (119819, s348), (119820, s361), (119821, s349), (119822, s425), (119823, s351), (119824, s352), (119825, s353), (119826, s268)]
noncomputable def kv13 : List (Int × Str) := [(119827, s426), (119828, s427), (119829, s428), (119830, s429), (119831, s430), (119832, s431), (119833, s357), (119860, s422), (119861, s358), (119862, s343), (119863, s363), (119864, s359), (119865, s360), (119866, s423), (119867, s347), (119868, s249), (119869, s424)]
noncomputable def kv14 : List (Int × Str) := [(119870, s228), (119871, s348), (119872, s361), (119873, s349), (119874, s425), (119875, s351), (119876, s352), (119877, s353), (119878, s268), (119879, s426), (119880, s427), (119881, s428), (119882, s429), (119883, s430), (119884, s431), (119885, s357), (119912, s422)]
noncomputable def kv15 : List (Int × Str) := [(119913, s358), (119914, s343), (119915, s363), (119916, s359), (119917, s360), (119918, s423), (119919, s347), (119920, s249), (119921, s424), (119922, s228), (119923, s348), (119924, s361), (119925, s349), (119926, s425), (119927, s351), (119928, s352), (119929, s353)]
noncomputable def kv16 : List (Int × Str) := [(119930, s268), (119931, s426), (119932, s427), (119933, s428), (119934, s429), (119935, s430), (119936, s431), (119937, s357), (119964, s422), (119966, s343), (119967, s363), (119970, s423), (119973, s424), (119974, s228), (119977, s349), (119978, s425), (119979, s351)]
noncomputable def kv17 : List (Int × Str) := [(119980, s352), (119982, s268), (119983, s426), (119984, s427), (119985, s428), (119986, s429), (119987, s430), (119988, s431), (119989, s357), (120016, s422), (120017, s358), (120018, s343), (120019, s363), (120020, s359), (120021, s360), (120022, s423), (120023, s347)]
noncomputable def kv18 : List (Int × Str) := [(120024, s249), (120025, s424), (120026, s228), (120027, s348), (120028, s361), (120029, s349), (120030, s425), (120031, s351), (120032, s352), (120033, s353), (120034, s268), (120035, s426), (120036, s427), (120037, s428), (120038, s429), (120039, s430), (120040, s431)]
noncomputable def kv19 : List (Int × Str) := [(120041, s357), (120068, s422), (120069, s358), (120071, s363), (120072, s359), (120073, s360), (120074, s423), (120077, s424), (120078, s228), (120079, s348), (120080, s361), (120081, s349), (120082, s425), (120083, s351), (120084, s352), (120086, s268), (120087, s426)]
noncomputable def kv20 : List (Int × Str) := [(120088, s427), (120089, s428), (120090, s429), (120091, s430), (120092, s431), (120120, s422), (120121, s358), (120123, s363), (120124, s359), (120125, s360), (120126, s423), (120128, s249), (120129, s424), (120130, s228), (120131, s348), (120132, s361), (120134, s425)]
noncomputable def kv21 : List (Int × Str) := [(120138, s268), (120139, s426), (120140, s427), (120141, s428), (120142, s429), (120143, s430), (120144, s431), (120172, s422), (120173, s358), (120174, s343), (120175, s363), (120176, s359), (120177, s360), (120178, s423), (120179, s347), (120180, s249), (120181, s424)]
noncomputable def kv22 : List (Int × Str) := [(120182, s228), (120183, s348), (120184, s361), (120185, s349), (120186, s425), (120187, s351), (120188, s352), (120189, s353), (120190, s268), (120191, s426), (120192, s427), (120193, s428), (120194, s429), (120195, s430), (120196, s431), (120197, s357), (120224, s422)]
noncomputable def kv23 : List (Int × Str) := [(120225, s358), (120226, s343), (120227, s363), (120228, s359), (120229, s360), (120230, s423), (120231, s347), (120232, s249), (120233, s424), (120234, s228), (120235, s348), (120236, s361), (120237, s349), (120238, s425), (120239, s351), (120240, s352), (120241, s353)]
noncomputable def kv24 : List (Int × Str) := [(120242, s268), (120243, s426), (120244, s427), (120245, s428), (120246, s429), (120247, s430), (120248, s431), (120249, s357), (120276, s422), (120277, s358), (120278, s343), (120279, s363), (120280, s359), (120281, s360), (120282, s423), (120283, s347), (120284, s249)]
noncomputable def kv25 : List (Int × Str) := [(120285, s424), (120286, s228), (120287, s348), (120288, s361), (120289, s349), (120290, s425), (120291, s351), (120292, s352), (120293, s353), (120294, s268), (120295, s426), (120296, s427), (120297, s428), (120298, s429), (120299, s430), (120300, s431), (120301, s357)]
noncomputable def kv26 : List (Int × Str) := [(120328, s422), (120329, s358), (120330, s343), (120331, s363), (120332, s359), (120333, s360), (120334, s423), (120335, s347), (120336, s249), (120337, s424), (120338, s228), (120339, s348), (120340, s361), (120341, s349), (120342, s425), (120343, s351), (120344, s352)]
noncomputable def kv27 : List (Int × Str) := [(120345, s353), (120346, s268), (120347, s426), (120348, s427), (120349, s428), (120350, s429), (120351, s430), (120352, s431), (120353, s357), (120380, s422), (120381, s358), (120382, s343), (120383, s363), (120384, s359), (120385, s360), (120386, s423), (120387, s347)]
noncomputable def kv28 : List (Int × Str) := [(120388, s249), (120389, s424), (120390, s228), (120391, s348), (120392, s361), (120393, s349), (120394, s425), (120395, s351), (120396, s352), (120397, s353), (120398, s268), (120399, s426), (120400, s427), (120401, s428), (120402, s429), (120403, s430), (120404, s431)]
noncomputable def kv29 : List (Int × Str) := [(120405, s357), (120432, s422), (120433, s358), (120434, s343), (120435, s363), (120436, s359), (120437, s360), (120438, s423), (120439, s347), (120440, s249), (120441, s424), (120442, s228), (120443, s348), (120444, s361), (120445, s349), (120446, s425), (120447, s351)]
noncomputable def kv30 : List (Int × Str) := [(120448, s352), (120449, s353), (120450, s268), (120451, s426), (120452, s427), (120453, s428), (120454, s429), (120455, s430), (120456, s431), (120457, s357), (120488, s432), (120489, s275), (120490, s362), (120491, s433), (120492, s284), (120493, s434), (120494, s435)]
noncomputable def kv31 : List (Int × Str) := [(120495, s276), (120496, s270), (120497, s282), (120498, s436), (120499, s264), (120500, s437), (120501, s438), (120502, s439), (120503, s281), (120504, s283), (120505, s276), (120506, s274), (120507, s440), (120508, s277), (120509, s280), (120510, s441), (120511, s442)]
noncomputable def kv32 : List (Int × Str) := [(120512, s443), (120531, s274), (120546, s432), (120547, s275), (120548, s362), (120549, s433), (120550, s284), (120551, s434), (120552, s435), (120553, s276), (120554, s270), (120555, s282), (120556, s436), (120557, s264), (120558, s437), (120559, s438), (120560, s439)]
noncomputable def kv33 : List (Int × Str) := [(120561, s281), (120562, s283), (120563, s276), (120564, s274), (120565, s440), (120566, s277), (120567, s280), (120568, s441), (120569, s442), (120570, s443), (120589, s274), (120604, s432), (120605, s275), (120606, s362), (120607, s433), (120608, s284), (120609, s434)]
noncomputable def kv34 : List (Int × Str) := [(120610, s435), (120611, s276), (120612, s270), (120613, s282), (120614, s436), (120615, s264), (120616, s437), (120617, s438), (120618, s439), (120619, s281), (120620, s283), (120621, s276), (120622, s274), (120623, s440), (120624, s277), (120625, s280), (120626, s441)]
noncomputable def kv35 : List (Int × Str) := [(120627, s442), (120628, s443), (120647, s274), (120662, s432), (120663, s275), (120664, s362), (120665, s433), (120666, s284), (120667, s434), (120668, s435), (120669, s276), (120670, s270), (120671, s282), (120672, s436), (120673, s264), (120674, s437), (120675, s438)]
noncomputable def kv36 : List (Int × Str) := [(120676, s439), (120677, s281), (120678, s283), (120679, s276), (120680, s274), (120681, s440), (120682, s277), (120683, s280), (120684, s441), (120685, s442), (120686, s443), (120705, s274), (120720, s432), (120721, s275), (120722, s362), (120723, s433), (120724, s284)]
noncomputable def kv37 : List (Int × Str) := [(120725, s434), (120726, s435), (120727, s276), (120728, s270), (120729, s282), (120730, s436), (120731, s264), (120732, s437), (120733, s438), (120734, s439), (120735, s281), (120736, s283), (120737, s276), (120738, s274), (120739, s440), (120740, s277), (120741, s280)]
noncomputable def kv38 : List (Int × Str) := [(120742, s441), (120743, s442), (120744, s443), (120763, s274)]
noncomputable def o0 (P : Params) : Obj := ⟨.type "dict", none, .dict ⟨[⟨(kh P s0), .str s0 1, .str s1 160⟩, ⟨(kh P s2), .str s2 2, .builtin "builtins.__doc__:str#opaque"⟩, ⟨(kh P s3), .str s3 3, .builtin "builtins.__package__:str#opaque"⟩, ⟨(kh P s4), .str s4 4, .builtin "builtins.__loader__:shared#opaque"⟩, ⟨(kh P s5), .str s5 5, .builtin "builtins.__spec__#opaque"⟩, ⟨(kh P s6), .str s6 6, .builtin "__build_class__"⟩, ⟨(kh P s7), .str s7 7, .builtin "__import__"⟩, ⟨(kh P s8), .str s8 8, .builtin "abs"⟩, ⟨(kh P s9), .str s9 9, .builtin "all"⟩, ⟨(kh P s10), .str s10 10, .builtin "any"⟩, ⟨(kh P s11), .str s11 11, .builtin "ascii"⟩, ⟨(kh P s12), .str s12 12, .builtin "bin"⟩, ⟨(kh P s13), .str s13 13, .builtin "breakpoint"⟩, ⟨(kh P s14), .str s14 14, .builtin "callable"⟩, ⟨(kh P s15), .str s15 15, .builtin "chr"⟩, ⟨(kh P s16), .str s16 16, .builtin "compile"⟩, ⟨(kh P s17), .str s17 17, .builtin "delattr"⟩, ⟨(kh P s18), .str s18 18, .builtin "dir"⟩, ⟨(kh P s19), .str s19 19, .builtin "divmod"⟩, ⟨(kh P s20), .str s20 20, .builtin "eval"⟩, ⟨(kh P s21), .str s21 21, .builtin "exec"⟩, ⟨(kh P s22), .str s22 22, .builtin "format"⟩, ⟨(kh P s23), .str s23 23, .builtin "getattr"⟩, ⟨(kh P s24), .str s24 24, .builtin "globals"⟩, ⟨(kh P s25), .str s25 25, .builtin "hasattr"⟩, ⟨(kh P s26), .str s26 26, .builtin "hash"⟩, ⟨(kh P s27), .str s27 27, .builtin "hex"⟩, ⟨(kh P s28), .str s28 28, .builtin "id"⟩, ⟨(kh P s29), .str s29 29, .builtin "input"⟩, ⟨(kh P s30), .str s30 30, .builtin "isinstance"⟩, ⟨(kh P s31), .str s31 31, .builtin "issubclass"⟩, ⟨(kh P s32), .str s32 32, .builtin "iter"⟩, ⟨(kh P s33), .str s33 33, .builtin "aiter"⟩, ⟨(kh P s34), .str s34 34, .builtin "len"⟩, ⟨(kh P s35), .str s35 35, .builtin "locals"⟩, ⟨(kh P s36), .str s36 36, .builtin "max"⟩, ⟨(kh P s37), .str s37 37, .builtin "min"⟩, ⟨(kh P s38), .str s38 38, .builtin "next"⟩, ⟨(kh P s39), .str s39 39, .builtin "anext"⟩, ⟨(kh P s40), .str s40 40, .builtin "oct"⟩, ⟨(kh P s41), .str s41 41, .builtin "ord"⟩, ⟨(kh P s42), .str s42 42, .builtin "pow"⟩, ⟨(kh P s43), .str s43 43, .builtin "print"⟩, ⟨(kh P s44), .str s44 44, .builtin "repr"⟩, ⟨(kh P s45), .str s45 45, .builtin "round"⟩, ⟨(kh P s46), .str s46 46, .builtin "setattr"⟩, ⟨(kh P s47), .str s47 47, .builtin "sorted"⟩, ⟨(kh P s48), .str s48 48, .builtin "sum"⟩, ⟨(kh P s49), .str s49 49, .builtin "vars"⟩, ⟨(kh P s50), .str s50 50, .none⟩, ⟨(kh P s51), .str s51 51, .ellipsis⟩, ⟨(kh P s52), .str s52 52, .notImplemented⟩, ⟨(kh P s53), .str s53 53, .bool false⟩, ⟨(kh P s54), .str s54 54, .bool true⟩, ⟨(kh P s55), .str s55 55, .type "bool"⟩, ⟨(kh P s56), .str s56 56, .type "memoryview"⟩, ⟨(kh P s57), .str s57 57, .type "bytearray"⟩, ⟨(kh P s58), .str s58 58, .type "bytes"⟩, ⟨(kh P s59), .str s59 59, .type "classmethod"⟩, ⟨(kh P s60), .str s60 60, .type "complex"⟩, ⟨(kh P s61), .str s61 61, .type "dict"⟩, ⟨(kh P s62), .str s62 62, .type "enumerate"⟩, ⟨(kh P s63), .str s63 63, .type "filter"⟩, ⟨(kh P s64), .str s64 64, .type "float"⟩, ⟨(kh P s65), .str s65 65, .type "frozenset"⟩, ⟨(kh P s66), .str s66 66, .type "property"⟩, ⟨(kh P s67), .str s67 67, .type "int"⟩, ⟨(kh P s68), .str s68 68, .type "list"⟩, ⟨(kh P s69), .str s69 69, .type "map"⟩, ⟨(kh P s70), .str s70 70, .type "object"⟩, ⟨(kh P s71), .str s71 71, .type "range"⟩, ⟨(kh P s72), .str s72 72, .type "reversed"⟩, ⟨(kh P s73), .str s73 73, .type "set"⟩, ⟨(kh P s74), .str s74 74, .type "slice"⟩, ⟨(kh P s75), .str s75 75, .type "staticmethod"⟩, ⟨(kh P s76), .str s76 76, .type "str"⟩, ⟨(kh P s77), .str s77 77, .type "super"⟩, ⟨(kh P s78), .str s78 78, .type "tuple"⟩, ⟨(kh P s79), .str s79 79, .type "type"⟩, ⟨(kh P s80), .str s80 80, .type "zip"⟩, ⟨(kh P s81), .str s81 81, .bool true⟩, ⟨(kh P s82), .str s82 82, .type "BaseException"⟩, ⟨(kh P s83), .str s83 83, .type "BaseExceptionGroup"⟩, ⟨(kh P s84), .str s84 84, .type "Exception"⟩, ⟨(kh P s85), .str s85 85, .type "GeneratorExit"⟩, ⟨(kh P s86), .str s86 86, .type "KeyboardInterrupt"⟩, ⟨(kh P s87), .str s87 87, .type "SystemExit"⟩, ⟨(kh P s88), .str s88 88, .type "ArithmeticError"⟩, ⟨(kh P s89), .str s89 89, .type "AssertionError"⟩, ⟨(kh P s90), .str s90 90, .type "AttributeError"⟩, ⟨(kh P s91), .str s91 91, .type "BufferError"⟩, ⟨(kh P s92), .str s92 92, .type "EOFError"⟩, ⟨(kh P s93), .str s93 93, .type "ImportError"⟩, ⟨(kh P s94), .str s94 94, .type "LookupError"⟩, ⟨(kh P s95), .str s95 95, .type "MemoryError"⟩, ⟨(kh P s96), .str s96 96, .type "NameError"⟩, ⟨(kh P s97), .str s97 97, .type "OSError"⟩, ⟨(kh P s98), .str s98 98, .type "ReferenceError"⟩, ⟨(kh P s99), .str s99 99, .type "RuntimeError"⟩, ⟨(kh P s100), .str s100 100, .type "StopAsyncIteration"⟩, ⟨(kh P s101), .str s101 101, .type "StopIteration"⟩, ⟨(kh P s102), .str s102 102, .type "SyntaxError"⟩, ⟨(kh P s103), .str s103 103, .type "SystemError"⟩, ⟨(kh P s104), .str s104 104, .type "TypeError"⟩, ⟨(kh P s105), .str s105 105, .type "ValueError"⟩, ⟨(kh P s106), .str s106 106, .type "Warning"⟩, ⟨(kh P s107), .str s107 107, .type "FloatingPointError"⟩, ⟨(kh P s108), .str s108 108, .type "OverflowError"⟩, ⟨(kh P s109), .str s109 109, .type "ZeroDivisionError"⟩, ⟨(kh P s110), .str s110 110, .type "BytesWarning"⟩, ⟨(kh P s111), .str s111 111, .type "DeprecationWarning"⟩, ⟨(kh P s112), .str s112 112, .type "EncodingWarning"⟩, ⟨(kh P s113), .str s113 113, .type "FutureWarning"⟩, ⟨(kh P s114), .str s114 114, .type "ImportWarning"⟩, ⟨(kh P s115), .str s115 115, .type "PendingDeprecationWarning"⟩, ⟨(kh P s116), .str s116 116, .type "ResourceWarning"⟩, ⟨(kh P s117), .str s117 117, .type "RuntimeWarning"⟩, ⟨(kh P s118), .str s118 118, .type "SyntaxWarning"⟩, ⟨(kh P s119), .str s119 119, .type "UnicodeWarning"⟩, ⟨(kh P s120), .str s120 120, .type "UserWarning"⟩, ⟨(kh P s121), .str s121 121, .type "BlockingIOError"⟩, ⟨(kh P s122), .str s122 122, .type "ChildProcessError"⟩, ⟨(kh P s123), .str s123 123, .type "ConnectionError"⟩, ⟨(kh P s124), .str s124 124, .type "FileExistsError"⟩, ⟨(kh P s125), .str s125 125, .type "FileNotFoundError"⟩, ⟨(kh P s126), .str s126 126, .type "InterruptedError"⟩, ⟨(kh P s127), .str s127 127, .type "IsADirectoryError"⟩, ⟨(kh P s128), .str s128 128, .type "NotADirectoryError"⟩, ⟨(kh P s129), .str s129 129, .type "PermissionError"⟩, ⟨(kh P s130), .str s130 130, .type "ProcessLookupError"⟩, ⟨(kh P s131), .str s131 131, .type "TimeoutError"⟩, ⟨(kh P s132), .str s132 132, .type "IndentationError"⟩, ⟨(kh P s133), .str s133 133, .type "_IncompleteInputError"⟩, ⟨(kh P s134), .str s134 134, .type "IndexError"⟩, ⟨(kh P s135), .str s135 135, .type "KeyError"⟩, ⟨(kh P s136), .str s136 136, .type "ModuleNotFoundError"⟩, ⟨(kh P s137), .str s137 137, .type "NotImplementedError"⟩, ⟨(kh P s138), .str s138 138, .type "PythonFinalizationError"⟩, ⟨(kh P s139), .str s139 139, .type "RecursionError"⟩, ⟨(kh P s140), .str s140 140, .type "UnboundLocalError"⟩, ⟨(kh P s141), .str s141 141, .type "UnicodeError"⟩, ⟨(kh P s142), .str s142 142, .type "BrokenPipeError"⟩, ⟨(kh P s143), .str s143 143, .type "ConnectionAbortedError"⟩, ⟨(kh P s144), .str s144 144, .type "ConnectionRefusedError"⟩, ⟨(kh P s145), .str s145 145, .type "ConnectionResetError"⟩, ⟨(kh P s146), .str s146 146, .type "TabError"⟩, ⟨(kh P s147), .str s147 147, .type "UnicodeDecodeError"⟩, ⟨(kh P s148), .str s148 148, .type "UnicodeEncodeError"⟩, ⟨(kh P s149), .str s149 149, .type "UnicodeTranslateError"⟩, ⟨(kh P s150), .str s150 150, .type "ExceptionGroup"⟩, ⟨(kh P s151), .str s151 151, .type "OSError"⟩, ⟨(kh P s152), .str s152 152, .type "OSError"⟩, ⟨(kh P s153), .str s153 153, .builtin "open"⟩, ⟨(kh P s154), .str s154 154, .builtin "builtins.quit#opaque"⟩, ⟨(kh P s155), .str s155 155, .builtin "builtins.exit#opaque"⟩, ⟨(kh P s156), .str s156 156, .builtin "builtins.copyright#opaque"⟩, ⟨(kh P s157), .str s157 157, .builtin "builtins.credits#opaque"⟩, ⟨(kh P s158), .str s158 158, .builtin "builtins.license#opaque"⟩, ⟨(kh P s159), .str s159 159, .builtin "builtins.help#opaque"⟩]⟩ 159, ⟨[]⟩⟩
noncomputable def o1 (P : Params) : Obj := ⟨.type "dict", none, .dict ⟨[⟨(kh P s1), .str s1 162, .ref 4⟩, ⟨(kh P s160), .str s160 163, .ref 5⟩, ⟨(kh P s161), .str s161 244, .ref 12⟩]⟩ 3, ⟨[]⟩⟩
noncomputable def o2 (P : Params) : Obj := ⟨.none, none, .dict ⟨[⟨(kh P s162), .str s162 183, .bool true⟩, ⟨(kh P s163), .str s163 185, .ref 14⟩, ⟨(kh P s164), .str s164 206, .ref 18⟩, ⟨(kh P s165), .str s165 216, .ref 22⟩, ⟨(kh P s166), .str s166 245, .int 3 0⟩, ⟨(kh P s167), .str s167 270, .bool true⟩, ⟨(kh P s168), .str s168 272, .ref 27⟩, ⟨(kh P s169), .str s169 0, .str s170 0⟩, ⟨(kh P s171), .str s171 273, .str s172 0⟩]⟩ 9, ⟨[]⟩⟩
noncomputable def o3 (P : Params) : Obj := ⟨.type "dict", none, .dict ⟨[⟨(kh P s0), .str s0 165, .str s160 164⟩, ⟨(kh P s2), .str s2 166, .none⟩, ⟨(kh P s3), .str s3 167, .none⟩, ⟨(kh P s4), .str s4 168, .builtin "__main__.__loader__#opaque"⟩, ⟨(kh P s5), .str s5 169, .none⟩, ⟨(kh P s173), .str s173 170, .ref 6⟩, ⟨(kh P s174), .str s174 171, .ref 4⟩, ⟨(kh P s175), .str s175 173, .str s176 172⟩, ⟨(kh P s177), .str s177 174, .none⟩, ⟨(kh P s161), .str s161 275, .ref 12⟩]⟩ 10, ⟨[]⟩⟩
noncomputable def o4 (P : Params) : Obj := ⟨.type "module", (some 0), .plain, ⟨[]⟩⟩
noncomputable def o5 (P : Params) : Obj := ⟨.type "module", (some 3), .plain, ⟨[]⟩⟩
noncomputable def o6 (P : Params) : Obj := ⟨.type "dict", none, .dict ⟨[]⟩ 0, ⟨[]⟩⟩
noncomputable def o7 (P : Params) : Obj := ⟨.type "tuple", none, .seq ⟨[]⟩ 0, ⟨[]⟩⟩
noncomputable def o8 (P : Params) : Obj := ⟨.none, none, .fields ⟨[]⟩, ⟨[]⟩⟩
noncomputable def o9 (P : Params) : Obj := ⟨.type "code", none, .fields ⟨[.str s178 176, .str s178 177, .str s176 178, .int 1 0, .int 0 0, .int 0 0, .int 0 0, .int 0 0, .ref 7, .bool false, .int 175 0, .ref 8, .none, .none, .none, .none, .int 179 0, .int 1 0, .str s176 180]⟩, ⟨[]⟩⟩
noncomputable def o10 (P : Params) : Obj := ⟨.type "frame", none, .plain, ⟨[(some (.ref 9)), (some (.ref 3)), (some (.ref 3)), none, (some (.str s160 164)), none, (some (.ref 0))]⟩⟩
noncomputable def o11 (P : Params) : Obj := ⟨.type "dict", none, .dict ⟨[⟨(kh P s0), .str s0 247, .str s161 246⟩, ⟨(kh P s2), .str s2 248, .none⟩, ⟨(kh P s3), .str s3 250, .str s179 249⟩, ⟨(kh P s4), .str s4 251, .builtin "off-the-table:_sre.__loader__:shared#opaque"⟩, ⟨(kh P s5), .str s5 252, .builtin "off-the-table:_sre.__spec__:shared#opaque"⟩, ⟨(kh P s16), .str s16 253, .builtin "_sre.compile"⟩, ⟨(kh P s180), .str s180 254, .builtin "off-the-table:_sre.template:shared#opaque"⟩, ⟨(kh P s181), .str s181 255, .builtin "off-the-table:_sre.getcodesize:shared#opaque"⟩, ⟨(kh P s182), .str s182 256, .builtin "off-the-table:_sre.ascii_iscased:shared#opaque"⟩, ⟨(kh P s183), .str s183 257, .builtin "off-the-table:_sre.unicode_iscased:shared#opaque"⟩, ⟨(kh P s184), .str s184 258, .builtin "off-the-table:_sre.ascii_tolower:shared#opaque"⟩, ⟨(kh P s185), .str s185 259, .builtin "off-the-table:_sre.unicode_tolower:shared#opaque"⟩, ⟨(kh P s186), .str s186 261, .int 20230612 260⟩, ⟨(kh P s187), .str s187 263, .int 4 262⟩, ⟨(kh P s188), .str s188 265, .int 4294967295 264⟩, ⟨(kh P s189), .str s189 267, .int 1073741823 266⟩, ⟨(kh P s156), .str s156 269, .str s190 268⟩]⟩ 17, ⟨[]⟩⟩
noncomputable def o12 (P : Params) : Obj := ⟨.type "module", (some 11), .plain, ⟨[]⟩⟩
noncomputable def o13 (P : Params) : Obj := ⟨.type "dict", none, .dict ⟨[⟨(kh P s191), .str s191 189, .str s192 186⟩, ⟨(kh P s193), .str s193 190, .int 971 187⟩, ⟨(kh P s2), .str s2 191, .builtin "_frozen_importlib.BuiltinImporter.__doc__:str#opaque"⟩, ⟨(kh P s194), .str s194 192, .str s195 188⟩, ⟨(kh P s196), .str s196 193, .builtin "_frozen_importlib.BuiltinImporter.find_spec#opaque"⟩, ⟨(kh P s197), .str s197 194, .builtin "_frozen_importlib.BuiltinImporter.create_module#opaque"⟩, ⟨(kh P s198), .str s198 195, .builtin "_frozen_importlib.BuiltinImporter.exec_module#opaque"⟩, ⟨(kh P s199), .str s199 196, .builtin "_frozen_importlib.BuiltinImporter.get_code#opaque"⟩, ⟨(kh P s200), .str s200 197, .builtin "_frozen_importlib.BuiltinImporter.get_source#opaque"⟩, ⟨(kh P s201), .str s201 198, .builtin "_frozen_importlib.BuiltinImporter.is_package#opaque"⟩, ⟨(kh P s202), .str s202 199, .builtin "_frozen_importlib.BuiltinImporter.load_module#opaque"⟩, ⟨(kh P s203), .str s203 200, .ref 15⟩, ⟨(kh P s204), .str s204 202, .ref 16⟩, ⟨(kh P s205), .str s205 204, .ref 17⟩]⟩ 14, ⟨[]⟩⟩
noncomputable def o14 (P : Params) : Obj := ⟨.type "type", none, .cls { name := s206, bases := [.type "object"], mro := [.ref 14, .type "object"], ns := 13, qualname := s206, hasDict := true, slotNames := [], subclasses := [], abstract := false, collection := none, hasDel := false }, ⟨[]⟩⟩
noncomputable def o15 (P : Params) : Obj := ⟨.type "tuple", none, .seq ⟨[]⟩ 0, ⟨[]⟩⟩
noncomputable def o16 (P : Params) : Obj := ⟨.type "getset_descriptor", none, .fields ⟨[.str s204 201, .ref 14, .builtin "function.__dict__", .builtin "function.__dict__#set"]⟩, ⟨[]⟩⟩
noncomputable def o17 (P : Params) : Obj := ⟨.type "getset_descriptor", none, .fields ⟨[.str s205 203, .ref 14, .builtin "ExceptionGroup.__weakref__", .none]⟩, ⟨[]⟩⟩
noncomputable def o18 (P : Params) : Obj := ⟨.none, none, .seq ⟨[.int 13 0, .str s207 0, .bool true, .bool true, .str s179 205, .int 21 0, .str s208 0, .bool true, .bool true, .str s179 242]⟩ 1, ⟨[]⟩⟩
noncomputable def o19 (P : Params) : Obj := ⟨.type "list", none, .seq ⟨[]⟩ 0, ⟨[]⟩⟩
noncomputable def o20 (P : Params) : Obj := ⟨.type "dict", none, .dict ⟨[⟨(kh P s209), .str s209 208, .str s161 207⟩, ⟨(kh P s210), .str s210 209, .ref 14⟩, ⟨(kh P s211), .str s211 210, .str s195 184⟩, ⟨(kh P s212), .str s212 211, .none⟩, ⟨(kh P s213), .str s213 212, .none⟩, ⟨(kh P s214), .str s214 213, .ref 19⟩, ⟨(kh P s215), .str s215 214, .bool false⟩, ⟨(kh P s216), .str s216 215, .none⟩, ⟨(kh P s217), .str s217 243, .bool false⟩]⟩ 9, ⟨[]⟩⟩
noncomputable def o21 (P : Params) : Obj := ⟨.type "dict", none, .dict ⟨[⟨(kh P s191), .str s191 227, .str s192 217⟩, ⟨(kh P s193), .str s193 228, .int 562 218⟩, ⟨(kh P s2), .str s2 229, .builtin "_frozen_importlib.ModuleSpec.__doc__:str#opaque"⟩, ⟨(kh P s218), .str s218 230, .builtin "_frozen_importlib.ModuleSpec.__init__#opaque"⟩, ⟨(kh P s219), .str s219 231, .builtin "_frozen_importlib.ModuleSpec.__repr__#opaque"⟩, ⟨(kh P s220), .str s220 232, .builtin "_frozen_importlib.ModuleSpec.__eq__#opaque"⟩, ⟨(kh P s221), .str s221 233, .builtin "_frozen_importlib.ModuleSpec.cached#opaque"⟩, ⟨(kh P s222), .str s222 234, .builtin "_frozen_importlib.ModuleSpec.parent#opaque"⟩, ⟨(kh P s223), .str s223 235, .builtin "_frozen_importlib.ModuleSpec.has_location#opaque"⟩, ⟨(kh P s203), .str s203 236, .ref 23⟩, ⟨(kh P s204), .str s204 238, .ref 24⟩, ⟨(kh P s205), .str s205 240, .ref 25⟩, ⟨(kh P s224), .str s224 241, .none⟩]⟩ 13, ⟨[]⟩⟩
noncomputable def o22 (P : Params) : Obj := ⟨.type "type", none, .cls { name := s225, bases := [.type "object"], mro := [.ref 22, .type "object"], ns := 21, qualname := s225, hasDict := true, slotNames := [], subclasses := [], abstract := false, collection := none, hasDel := false }, ⟨[]⟩⟩
noncomputable def o23 (P : Params) : Obj := ⟨.type "tuple", none, .seq ⟨[.str s216 219, .str s215 220, .str s214 221, .str s210 222, .str s212 223, .str s209 224, .str s211 225, .str s213 226]⟩ 0, ⟨[]⟩⟩
noncomputable def o24 (P : Params) : Obj := ⟨.type "getset_descriptor", none, .fields ⟨[.str s204 237, .ref 22, .builtin "function.__dict__", .builtin "function.__dict__#set"]⟩, ⟨[]⟩⟩
noncomputable def o25 (P : Params) : Obj := ⟨.type "getset_descriptor", none, .fields ⟨[.str s205 239, .ref 22, .builtin "ExceptionGroup.__weakref__", .none]⟩, ⟨[]⟩⟩
noncomputable def o26 (P : Params) : Obj := ⟨.ref 22, (some 20), .plain, ⟨[]⟩⟩
noncomputable def o27 (P : Params) : Obj := ⟨.none, none, .seq ⟨[.int 11 0, .str s226 0, .bool true, .bool false, .str s161 271]⟩ 0, ⟨[]⟩⟩
noncomputable def o28 (P : Params) : Obj := ⟨.type "tuple", none, .seq ⟨[]⟩ 0, ⟨[]⟩⟩
noncomputable def o29 (P : Params) : Obj := ⟨.none, none, .fields ⟨[]⟩, ⟨[]⟩⟩
noncomputable def o30 (P : Params) : Obj := ⟨.type "code", none, .fields ⟨[.str s178 277, .str s178 278, .str s176 279, .int 1 0, .int 0 0, .int 0 0, .int 0 0, .int 0 0, .ref 28, .bool false, .int 276 0, .ref 29, .none, .none, .none, .none, .int 280 0, .int 1 0, .str s176 281]⟩, ⟨[]⟩⟩
noncomputable def o31 (P : Params) : Obj := ⟨.type "frame", none, .plain, ⟨[(some (.ref 30)), (some (.ref 3)), (some (.ref 3)), none, (some (.str s160 164)), none, (some (.ref 0))]⟩⟩
noncomputable def o32 (P : Params) : Obj := ⟨.type "tuple", none, .seq ⟨[]⟩ 0, ⟨[]⟩⟩
noncomputable def o33 (P : Params) : Obj := ⟨.none, none, .fields ⟨[]⟩, ⟨[]⟩⟩
noncomputable def o34 (P : Params) : Obj := ⟨.type "tuple", none, .seq ⟨[.str s228 285]⟩ 0, ⟨[]⟩⟩
noncomputable def o35 (P : Params) : Obj := ⟨.type "tuple", none, .seq ⟨[]⟩ 0, ⟨[]⟩⟩
noncomputable def o36 (P : Params) : Obj := ⟨.none, none, .func (mkF (fnA 1) s227 s227 0 [] (.none) (.none) (.none) (.none) none (.none) (.none) 0), ⟨[]⟩⟩
noncomputable def o37 (P : Params) : Obj := ⟨.type "code", none, .fields ⟨[.str s227 282, .str s227 283, .str s176 284, .int 2 0, .int 1 0, .int 0 0, .int 0 0, .int 3 0, .ref 32, .bool true, .int 276 0, .ref 33, .none, .ref 34, .ref 35, .ref 36, .int 286 0, .int 2 0, .str s176 287]⟩, ⟨[]⟩⟩
noncomputable def o38 (P : Params) : Obj := ⟨.type "function", none, .func (mkF (fnA 1) s227 s227 3 [] (.none) (.none) (.none) (.str s160 164) none (.ref 37) (.none) 0), ⟨[]⟩⟩
noncomputable def o29_6 (P : Params) : Obj := ⟨.none, none, .fields ⟨[.int 2 0, .int 0 0, .ref 37, .int 7 0, .int 0 0, .ref 45]⟩, ⟨[]⟩⟩
noncomputable def o39 (P : Params) : Obj := ⟨.type "tuple", none, .seq ⟨[.type "list"]⟩ 0, ⟨[]⟩⟩
noncomputable def o40 (P : Params) : Obj := ⟨.type "builtin_function_or_method", none, .fields ⟨[.builtin "type.__prepare__", .type "type"]⟩, ⟨[]⟩⟩
noncomputable def o41 (P : Params) : Obj := ⟨.type "dict", none, .dict ⟨[⟨(kh P s191), .str s191 300, .str s229 289⟩, ⟨(kh P s232), .str s232 302, .str s231 301⟩, ⟨(kh P s193), .str s193 304, .int 7 303⟩, ⟨(kh P s218), .str s218 314, .ref 55⟩, ⟨(kh P s233), .str s233 323, .ref 62⟩, ⟨(kh P s234), .str s234 332, .ref 70⟩, ⟨(kh P s235), .str s235 340, .ref 78⟩, ⟨(kh P s236), .str s236 347, .ref 85⟩, ⟨(kh P s237), .str s237 354, .ref 92⟩, ⟨(kh P s238), .str s238 362, .ref 100⟩, ⟨(kh P s239), .str s239 369, .ref 107⟩, ⟨(kh P s240), .str s240 377, .ref 115⟩, ⟨(kh P s203), .str s203 379, .ref 116⟩, ⟨(kh P s241), .str s241 380, .ref 42⟩]⟩ 14, ⟨[]⟩⟩
noncomputable def o42 (P : Params) : Obj := ⟨.type "cell", none, .cell (some (.ref 118)), ⟨[]⟩⟩
noncomputable def o43 (P : Params) : Obj := ⟨.type "tuple", none, .seq ⟨[]⟩ 0, ⟨[]⟩⟩
noncomputable def o44 (P : Params) : Obj := ⟨.none, none, .fields ⟨[.int 9 0, .int 4 0, .ref 54, .int 13 0, .int 4 0, .ref 61, .int 16 0, .int 4 0, .ref 69, .int 19 0, .int 4 0, .ref 77, .int 24 0, .int 4 0, .ref 84, .int 27 0, .int 4 0, .ref 91, .int 30 0, .int 4 0, .ref 99, .int 33 0, .int 4 0, .ref 106, .int 36 0, .int 4 0, .ref 114]⟩, ⟨[]⟩⟩
noncomputable def o45 (P : Params) : Obj := ⟨.type "code", none, .fields ⟨[.str s231 295, .str s231 296, .str s176 297, .int 7 0, .int 0 0, .int 0 0, .int 0 0, .int 0 0, .ref 43, .bool false, .int 276 0, .ref 44, .none, .none, .none, .none, .int 298 0, .int 7 0, .str s176 299]⟩, ⟨[]⟩⟩
noncomputable def o46 (P : Params) : Obj := ⟨.type "frame", none, .plain, ⟨[(some (.ref 45)), (some (.ref 3)), (some (.ref 41)), none, (some (.str s229 289)), none, (some (.ref 0))]⟩⟩
noncomputable def o47 (P : Params) : Obj := ⟨.type "tuple", none, .seq ⟨[.int 0 305]⟩ 0, ⟨[]⟩⟩
noncomputable def o48 (P : Params) : Obj := ⟨.type "tuple", none, .seq ⟨[.ref 42]⟩ 0, ⟨[]⟩⟩
noncomputable def o49 (P : Params) : Obj := ⟨.type "tuple", none, .seq ⟨[.str s242 309]⟩ 0, ⟨[]⟩⟩
noncomputable def o50 (P : Params) : Obj := ⟨.none, none, .fields ⟨[]⟩, ⟨[]⟩⟩
noncomputable def o51 (P : Params) : Obj := ⟨.type "tuple", none, .seq ⟨[.str s243 310, .str s244 311]⟩ 0, ⟨[]⟩⟩
noncomputable def o52 (P : Params) : Obj := ⟨.type "tuple", none, .seq ⟨[]⟩ 0, ⟨[]⟩⟩
noncomputable def o53 (P : Params) : Obj := ⟨.none, none, .func (mkF (fnB 4 0) s218 s245 0 [] (.none) (.none) (.none) (.none) none (.none) (.none) 0), ⟨[]⟩⟩
noncomputable def o54 (P : Params) : Obj := ⟨.type "code", none, .fields ⟨[.str s218 306, .str s245 307, .str s176 308, .int 9 0, .int 2 0, .int 0 0, .int 0 0, .int 3 0, .ref 49, .bool true, .int 276 0, .ref 50, .none, .ref 51, .ref 52, .ref 53, .int 312 0, .int 9 0, .str s176 313]⟩, ⟨[]⟩⟩
noncomputable def o55 (P : Params) : Obj := ⟨.type "function", none, .func (mkF (fnB 4 0) s218 s245 3 [(s242, 42)] (.ref 47) (.none) (.none) (.str s229 289) none (.ref 54) (.ref 48) 0), ⟨[]⟩⟩
noncomputable def o56 (P : Params) : Obj := ⟨.type "tuple", none, .seq ⟨[]⟩ 0, ⟨[]⟩⟩
noncomputable def o57 (P : Params) : Obj := ⟨.none, none, .fields ⟨[]⟩, ⟨[]⟩⟩
noncomputable def o58 (P : Params) : Obj := ⟨.type "tuple", none, .seq ⟨[.str s243 318, .str s246 319, .str s247 320]⟩ 0, ⟨[]⟩⟩
noncomputable def o59 (P : Params) : Obj := ⟨.type "tuple", none, .seq ⟨[]⟩ 0, ⟨[]⟩⟩
noncomputable def o60 (P : Params) : Obj := ⟨.none, none, .func (mkF (fnB 4 1) s233 s248 0 [] (.none) (.none) (.none) (.none) none (.none) (.none) 0), ⟨[]⟩⟩
noncomputable def o61 (P : Params) : Obj := ⟨.type "code", none, .fields ⟨[.str s233 315, .str s248 316, .str s176 317, .int 13 0, .int 3 0, .int 0 0, .int 0 0, .int 3 0, .ref 56, .bool true, .int 276 0, .ref 57, .none, .ref 58, .ref 59, .ref 60, .int 321 0, .int 13 0, .str s176 322]⟩, ⟨[]⟩⟩
noncomputable def o62 (P : Params) : Obj := ⟨.type "function", none, .func (mkF (fnB 4 1) s233 s248 3 [] (.none) (.none) (.none) (.str s229 289) none (.ref 61) (.none) 0), ⟨[]⟩⟩
noncomputable def o63 (P : Params) : Obj := ⟨.type "tuple", none, .seq ⟨[.int 0 324]⟩ 0, ⟨[]⟩⟩
noncomputable def o64 (P : Params) : Obj := ⟨.type "tuple", none, .seq ⟨[]⟩ 0, ⟨[]⟩⟩
noncomputable def o65 (P : Params) : Obj := ⟨.none, none, .fields ⟨[]⟩, ⟨[]⟩⟩
noncomputable def o66 (P : Params) : Obj := ⟨.type "tuple", none, .seq ⟨[.str s243 328, .str s249 329]⟩ 0, ⟨[]⟩⟩
noncomputable def o67 (P : Params) : Obj := ⟨.type "tuple", none, .seq ⟨[]⟩ 0, ⟨[]⟩⟩
noncomputable def o68 (P : Params) : Obj := ⟨.none, none, .func (mkF (fnB 4 2) s234 s250 0 [] (.none) (.none) (.none) (.none) none (.none) (.none) 0), ⟨[]⟩⟩
noncomputable def o69 (P : Params) : Obj := ⟨.type "code", none, .fields ⟨[.str s234 325, .str s250 326, .str s176 327, .int 16 0, .int 2 0, .int 0 0, .int 0 0, .int 3 0, .ref 64, .bool true, .int 276 0, .ref 65, .none, .ref 66, .ref 67, .ref 68, .int 330 0, .int 16 0, .str s176 331]⟩, ⟨[]⟩⟩
noncomputable def o70 (P : Params) : Obj := ⟨.type "function", none, .func (mkF (fnB 4 2) s234 s250 3 [] (.ref 63) (.none) (.none) (.str s229 289) none (.ref 69) (.none) 0), ⟨[]⟩⟩
noncomputable def o71 (P : Params) : Obj := ⟨.type "tuple", none, .seq ⟨[.ref 42]⟩ 0, ⟨[]⟩⟩
noncomputable def o72 (P : Params) : Obj := ⟨.type "tuple", none, .seq ⟨[.str s242 336]⟩ 0, ⟨[]⟩⟩
noncomputable def o73 (P : Params) : Obj := ⟨.none, none, .fields ⟨[]⟩, ⟨[]⟩⟩
noncomputable def o74 (P : Params) : Obj := ⟨.type "tuple", none, .seq ⟨[.str s243 337]⟩ 0, ⟨[]⟩⟩
noncomputable def o75 (P : Params) : Obj := ⟨.type "tuple", none, .seq ⟨[]⟩ 0, ⟨[]⟩⟩
noncomputable def o76 (P : Params) : Obj := ⟨.none, none, .func (mkF (fnB 4 3) s235 s251 0 [] (.none) (.none) (.none) (.none) none (.none) (.none) 0), ⟨[]⟩⟩
noncomputable def o77 (P : Params) : Obj := ⟨.type "code", none, .fields ⟨[.str s235 333, .str s251 334, .str s176 335, .int 19 0, .int 1 0, .int 0 0, .int 0 0, .int 3 0, .ref 72, .bool true, .int 276 0, .ref 73, .none, .ref 74, .ref 75, .ref 76, .int 338 0, .int 19 0, .str s176 339]⟩, ⟨[]⟩⟩
noncomputable def o78 (P : Params) : Obj := ⟨.type "function", none, .func (mkF (fnB 4 3) s235 s251 3 [(s242, 42)] (.none) (.none) (.none) (.str s229 289) none (.ref 77) (.ref 71) 0), ⟨[]⟩⟩
noncomputable def o79 (P : Params) : Obj := ⟨.type "tuple", none, .seq ⟨[]⟩ 0, ⟨[]⟩⟩
noncomputable def o80 (P : Params) : Obj := ⟨.none, none, .fields ⟨[]⟩, ⟨[]⟩⟩
noncomputable def o81 (P : Params) : Obj := ⟨.type "tuple", none, .seq ⟨[.str s243 344]⟩ 0, ⟨[]⟩⟩
noncomputable def o82 (P : Params) : Obj := ⟨.type "tuple", none, .seq ⟨[]⟩ 0, ⟨[]⟩⟩
noncomputable def o83 (P : Params) : Obj := ⟨.none, none, .func (mkF (fnB 4 4) s236 s252 0 [] (.none) (.none) (.none) (.none) none (.none) (.none) 0), ⟨[]⟩⟩
noncomputable def o84 (P : Params) : Obj := ⟨.type "code", none, .fields ⟨[.str s236 341, .str s252 342, .str s176 343, .int 24 0, .int 1 0, .int 0 0, .int 0 0, .int 3 0, .ref 79, .bool true, .int 276 0, .ref 80, .none, .ref 81, .ref 82, .ref 83, .int 345 0, .int 24 0, .str s176 346]⟩, ⟨[]⟩⟩
noncomputable def o85 (P : Params) : Obj := ⟨.type "function", none, .func (mkF (fnB 4 4) s236 s252 3 [] (.none) (.none) (.none) (.str s229 289) none (.ref 84) (.none) 0), ⟨[]⟩⟩
noncomputable def o86 (P : Params) : Obj := ⟨.type "tuple", none, .seq ⟨[]⟩ 0, ⟨[]⟩⟩
noncomputable def o87 (P : Params) : Obj := ⟨.none, none, .fields ⟨[]⟩, ⟨[]⟩⟩
noncomputable def o88 (P : Params) : Obj := ⟨.type "tuple", none, .seq ⟨[.str s243 351]⟩ 0, ⟨[]⟩⟩
noncomputable def o89 (P : Params) : Obj := ⟨.type "tuple", none, .seq ⟨[]⟩ 0, ⟨[]⟩⟩
noncomputable def o90 (P : Params) : Obj := ⟨.none, none, .func (mkF (fnB 4 5) s237 s253 0 [] (.none) (.none) (.none) (.none) none (.none) (.none) 0), ⟨[]⟩⟩
noncomputable def o91 (P : Params) : Obj := ⟨.type "code", none, .fields ⟨[.str s237 348, .str s253 349, .str s176 350, .int 27 0, .int 1 0, .int 0 0, .int 0 0, .int 3 0, .ref 86, .bool true, .int 276 0, .ref 87, .none, .ref 88, .ref 89, .ref 90, .int 352 0, .int 27 0, .str s176 353]⟩, ⟨[]⟩⟩
noncomputable def o92 (P : Params) : Obj := ⟨.type "function", none, .func (mkF (fnB 4 5) s237 s253 3 [] (.none) (.none) (.none) (.str s229 289) none (.ref 91) (.none) 0), ⟨[]⟩⟩
noncomputable def o93 (P : Params) : Obj := ⟨.type "tuple", none, .seq ⟨[.none]⟩ 0, ⟨[]⟩⟩
noncomputable def o94 (P : Params) : Obj := ⟨.type "tuple", none, .seq ⟨[]⟩ 0, ⟨[]⟩⟩
noncomputable def o95 (P : Params) : Obj := ⟨.none, none, .fields ⟨[]⟩, ⟨[]⟩⟩
noncomputable def o96 (P : Params) : Obj := ⟨.type "tuple", none, .seq ⟨[.str s243 358, .str s254 359]⟩ 0, ⟨[]⟩⟩
noncomputable def o97 (P : Params) : Obj := ⟨.type "tuple", none, .seq ⟨[]⟩ 0, ⟨[]⟩⟩
noncomputable def o98 (P : Params) : Obj := ⟨.none, none, .func (mkF (fnB 4 6) s238 s255 0 [] (.none) (.none) (.none) (.none) none (.none) (.none) 0), ⟨[]⟩⟩
noncomputable def o99 (P : Params) : Obj := ⟨.type "code", none, .fields ⟨[.str s238 355, .str s255 356, .str s176 357, .int 30 0, .int 2 0, .int 0 0, .int 0 0, .int 3 0, .ref 94, .bool true, .int 276 0, .ref 95, .none, .ref 96, .ref 97, .ref 98, .int 360 0, .int 30 0, .str s176 361]⟩, ⟨[]⟩⟩
noncomputable def o100 (P : Params) : Obj := ⟨.type "function", none, .func (mkF (fnB 4 6) s238 s255 3 [] (.ref 93) (.none) (.none) (.str s229 289) none (.ref 99) (.none) 0), ⟨[]⟩⟩
noncomputable def o101 (P : Params) : Obj := ⟨.type "tuple", none, .seq ⟨[]⟩ 0, ⟨[]⟩⟩
noncomputable def o102 (P : Params) : Obj := ⟨.none, none, .fields ⟨[]⟩, ⟨[]⟩⟩
noncomputable def o103 (P : Params) : Obj := ⟨.type "tuple", none, .seq ⟨[.str s243 366]⟩ 0, ⟨[]⟩⟩
noncomputable def o104 (P : Params) : Obj := ⟨.type "tuple", none, .seq ⟨[]⟩ 0, ⟨[]⟩⟩
noncomputable def o105 (P : Params) : Obj := ⟨.none, none, .func (mkF (fnB 4 7) s239 s256 0 [] (.none) (.none) (.none) (.none) none (.none) (.none) 0), ⟨[]⟩⟩
noncomputable def o106 (P : Params) : Obj := ⟨.type "code", none, .fields ⟨[.str s239 363, .str s256 364, .str s176 365, .int 33 0, .int 1 0, .int 0 0, .int 0 0, .int 3 0, .ref 101, .bool true, .int 276 0, .ref 102, .none, .ref 103, .ref 104, .ref 105, .int 367 0, .int 33 0, .str s176 368]⟩, ⟨[]⟩⟩
noncomputable def o107 (P : Params) : Obj := ⟨.type "function", none, .func (mkF (fnB 4 7) s239 s256 3 [] (.none) (.none) (.none) (.str s229 289) none (.ref 106) (.none) 0), ⟨[]⟩⟩
noncomputable def o108 (P : Params) : Obj := ⟨.type "tuple", none, .seq ⟨[.ref 42]⟩ 0, ⟨[]⟩⟩
noncomputable def o109 (P : Params) : Obj := ⟨.type "tuple", none, .seq ⟨[.str s242 373]⟩ 0, ⟨[]⟩⟩
noncomputable def o110 (P : Params) : Obj := ⟨.none, none, .fields ⟨[]⟩, ⟨[]⟩⟩
noncomputable def o111 (P : Params) : Obj := ⟨.type "tuple", none, .seq ⟨[.str s243 374]⟩ 0, ⟨[]⟩⟩
noncomputable def o112 (P : Params) : Obj := ⟨.type "tuple", none, .seq ⟨[]⟩ 0, ⟨[]⟩⟩
noncomputable def o113 (P : Params) : Obj := ⟨.none, none, .func (mkF (fnB 4 8) s240 s257 0 [] (.none) (.none) (.none) (.none) none (.none) (.none) 0), ⟨[]⟩⟩
noncomputable def o114 (P : Params) : Obj := ⟨.type "code", none, .fields ⟨[.str s240 370, .str s257 371, .str s176 372, .int 36 0, .int 1 0, .int 0 0, .int 0 0, .int 3 0, .ref 109, .bool true, .int 276 0, .ref 110, .none, .ref 111, .ref 112, .ref 113, .int 375 0, .int 36 0, .str s176 376]⟩, ⟨[]⟩⟩
noncomputable def o115 (P : Params) : Obj := ⟨.type "function", none, .func (mkF (fnB 4 8) s240 s257 3 [(s242, 42)] (.none) (.none) (.none) (.str s229 289) none (.ref 114) (.ref 108) 0), ⟨[]⟩⟩
noncomputable def o116 (P : Params) : Obj := ⟨.type "tuple", none, .seq ⟨[.str s258 378]⟩ 0, ⟨[]⟩⟩
noncomputable def o117 (P : Params) : Obj := ⟨.type "dict", none, .dict ⟨[⟨(kh P s191), .str s191 300, .str s229 289⟩, ⟨(kh P s193), .str s193 304, .int 7 303⟩, ⟨(kh P s218), .str s218 314, .ref 55⟩, ⟨(kh P s233), .str s233 323, .ref 62⟩, ⟨(kh P s234), .str s234 332, .ref 70⟩, ⟨(kh P s235), .str s235 340, .ref 78⟩, ⟨(kh P s236), .str s236 347, .ref 85⟩, ⟨(kh P s237), .str s237 354, .ref 92⟩, ⟨(kh P s238), .str s238 362, .ref 100⟩, ⟨(kh P s239), .str s239 369, .ref 107⟩, ⟨(kh P s240), .str s240 377, .ref 115⟩, ⟨(kh P s203), .str s203 379, .ref 116⟩, ⟨(kh P s204), .str s204 382, .ref 119⟩, ⟨(kh P s205), .str s205 384, .ref 120⟩, ⟨(kh P s2), .str s2 385, .none⟩]⟩ 5, ⟨[]⟩⟩
noncomputable def o118 (P : Params) : Obj := ⟨.type "type", none, .cls { name := s231, bases := [.type "list"], mro := [.ref 118, .type "list", .type "object"], ns := 117, qualname := s231, hasDict := true, slotNames := [], subclasses := [], abstract := false, collection := none, hasDel := false }, ⟨[(some (.ref 39)), none, (some (.str s231 293)), (some (.str s231 301)), (some (.builtin "list.__new__")), (some (.bool true))]⟩⟩
noncomputable def o119 (P : Params) : Obj := ⟨.type "getset_descriptor", none, .fields ⟨[.str s204 381, .ref 118, .builtin "function.__dict__", .builtin "function.__dict__#set"]⟩, ⟨[]⟩⟩
noncomputable def o120 (P : Params) : Obj := ⟨.type "getset_descriptor", none, .fields ⟨[.str s205 383, .ref 118, .builtin "ExceptionGroup.__weakref__", .none]⟩, ⟨[]⟩⟩
noncomputable def o121 (P : Params) : Obj := ⟨.type "super", none, .fields ⟨[.ref 118, .ref 118, .ref 118]⟩, ⟨[]⟩⟩
noncomputable def o122 (P : Params) : Obj := ⟨.type "builtin_function_or_method", none, .fields ⟨[.builtin "object.__init_subclass__", .ref 118]⟩, ⟨[]⟩⟩
noncomputable def o3_7 (P : Params) : Obj := ⟨.type "dict", none, .dict ⟨[⟨(kh P s0), .str s0 165, .str s259 388⟩, ⟨(kh P s2), .str s2 166, .none⟩, ⟨(kh P s3), .str s3 167, .none⟩, ⟨(kh P s4), .str s4 168, .builtin "__main__.__loader__#opaque"⟩, ⟨(kh P s5), .str s5 169, .none⟩, ⟨(kh P s173), .str s173 170, .ref 6⟩, ⟨(kh P s174), .str s174 171, .ref 4⟩, ⟨(kh P s175), .str s175 173, .str s176 172⟩, ⟨(kh P s177), .str s177 174, .none⟩, ⟨(kh P s161), .str s161 275, .ref 12⟩, ⟨(kh P s227), .str s227 288, .ref 38⟩, ⟨(kh P s230), .str s230 292, .str s179 291⟩, ⟨(kh P s231), .str s231 387, .ref 118⟩]⟩ 13, ⟨[]⟩⟩
noncomputable def o3_8 (P : Params) : Obj := ⟨.type "dict", none, .dict ⟨[⟨(kh P s0), .str s0 165, .str s259 388⟩, ⟨(kh P s2), .str s2 166, .none⟩, ⟨(kh P s3), .str s3 167, .none⟩, ⟨(kh P s4), .str s4 168, .builtin "__main__.__loader__#opaque"⟩, ⟨(kh P s5), .str s5 169, .none⟩, ⟨(kh P s173), .str s173 170, .ref 6⟩, ⟨(kh P s174), .str s174 171, .ref 4⟩, ⟨(kh P s175), .str s175 173, .str s176 172⟩, ⟨(kh P s177), .str s177 174, .none⟩, ⟨(kh P s161), .str s161 275, .ref 12⟩, ⟨(kh P s227), .str s227 288, .ref 38⟩, ⟨(kh P s230), .str s230 292, .str s179 291⟩, ⟨(kh P s231), .str s231 387, .ref 118⟩, ⟨(kh P s260), .str s260 449, .ref 130⟩]⟩ 14, ⟨[]⟩⟩
noncomputable def o123 (P : Params) : Obj := ⟨.type "list", none, .seq ⟨[.int 173 390, .int 847 391, .int 6150 392, .int 6155 393, .int 6156 394, .int 6157 395, .int 8203 396, .int 8204 397, .int 8205 398, .int 8288 399, .int 65279 400]⟩ 0, ⟨[]⟩⟩
noncomputable def o124 (P : Params) : Obj := ⟨.type "range", none, .fields ⟨[.int 65024 401, .int 65040 402, .int 1 403]⟩, ⟨[]⟩⟩
noncomputable def o125 (P : Params) : Obj := ⟨.type "list", none, .seq ⟨[.int 65024 406, .int 65025 407, .int 65026 408, .int 65027 409, .int 65028 410, .int 65029 411, .int 65030 412, .int 65031 413, .int 65032 414, .int 65033 415, .int 65034 416, .int 65035 417, .int 65036 418, .int 65037 419, .int 65038 420, .int 65039 421]⟩ 18, ⟨[]⟩⟩
noncomputable def o126 (P : Params) : Obj := ⟨.type "range_iterator", none, .fields ⟨[.int 65040 0, .int 0 0, .int 1 0]⟩, ⟨[]⟩⟩
noncomputable def o127 (P : Params) : Obj := ⟨.type "tuple", none, .seq ⟨[]⟩ 0, ⟨[]⟩⟩
noncomputable def o128 (P : Params) : Obj := ⟨.type "StopIteration", none, .fields ⟨[.ref 127, .none, .none, .none, .bool false, .none]⟩, ⟨[]⟩⟩
noncomputable def o129 (P : Params) : Obj := ⟨.type "list", none, .seq ⟨[.int 173 390, .int 847 391, .int 6150 392, .int 6155 393, .int 6156 394, .int 6157 395, .int 8203 396, .int 8204 397, .int 8205 398, .int 8288 399, .int 65279 400, .int 65024 406, .int 65025 407, .int 65026 408, .int 65027 409, .int 65028 410, .int 65029 411, .int 65030 412, .int 65031 413, .int 65032 414, .int 65033 415, .int 65034 416, .int 65035 417, .int 65036 418, .int 65037 419, .int 65038 420, .int 65039 421]⟩ 0, ⟨[]⟩⟩
noncomputable def o130 (P : Params) : Obj := ⟨.type "set", none, .set ⟨[(65024, .int 65024 406), (65025, .int 65025 407), (65026, .int 65026 408), (65027, .int 65027 409), (65028, .int 65028 410), (65029, .int 65029 411), (6150, .int 6150 392), (65030, .int 65030 412), (65031, .int 65031 413), (65032, .int 65032 414), (65033, .int 65033 415), (6155, .int 6155 393), (6156, .int 6156 394), (6157, .int 6157 395), (8203, .int 8203 396), (8204, .int 8204 397), (8205, .int 8205 398), (65034, .int 65034 416), (65035, .int 65035 417), (65036, .int 65036 418), (65037, .int 65037 419), (65038, .int 65038 420), (65039, .int 65039 421), (173, .int 173 390), (847, .int 847 391), (8288, .int 8288 399), (65279, .int 65279 400)]⟩ 29 ⟨127, ⟨[0, 1, 2, 3, 4, 5, 6, 7, 8, 9, 10, 11, 12, 13, 14, 15, 16, 17, 18, 19, 20, 21, 22, 45, 79, 96, 127]⟩, ⟨[]⟩, 0, (cond (P.followText "set-order") false true), 2, true⟩, ⟨[]⟩⟩
noncomputable def o131 (P : Params) : Obj := ⟨.type "list_iterator", none, .fields ⟨[.none, .int 27 0]⟩, ⟨[]⟩⟩
noncomputable def o132 (P : Params) : Obj := ⟨.type "tuple", none, .seq ⟨[]⟩ 0, ⟨[]⟩⟩
noncomputable def o133 (P : Params) : Obj := ⟨.type "StopIteration", none, .fields ⟨[.ref 132, .none, .none, .none, .bool false, .none]⟩, ⟨[]⟩⟩
noncomputable def o3_9 (P : Params) : Obj := ⟨.type "dict", none, .dict ⟨[⟨(kh P s0), .str s0 165, .str s259 388⟩, ⟨(kh P s2), .str s2 166, .none⟩, ⟨(kh P s3), .str s3 167, .none⟩, ⟨(kh P s4), .str s4 168, .builtin "__main__.__loader__#opaque"⟩, ⟨(kh P s5), .str s5 169, .none⟩, ⟨(kh P s173), .str s173 170, .ref 6⟩, ⟨(kh P s174), .str s174 171, .ref 4⟩, ⟨(kh P s175), .str s175 173, .str s176 172⟩, ⟨(kh P s177), .str s177 174, .none⟩, ⟨(kh P s161), .str s161 275, .ref 12⟩, ⟨(kh P s227), .str s227 288, .ref 38⟩, ⟨(kh P s230), .str s230 292, .str s179 291⟩, ⟨(kh P s231), .str s231 387, .ref 118⟩, ⟨(kh P s260), .str s260 449, .ref 130⟩, ⟨(kh P s261), .str s261 456, .ref 140⟩]⟩ 15, ⟨[]⟩⟩
noncomputable def o29_9 (P : Params) : Obj := ⟨.none, none, .fields ⟨[.int 2 0, .int 0 0, .ref 37, .int 7 0, .int 0 0, .ref 45, .int 40 0, .int 0 0, .ref 139]⟩, ⟨[]⟩⟩
noncomputable def o134 (P : Params) : Obj := ⟨.type "tuple", none, .seq ⟨[]⟩ 0, ⟨[]⟩⟩
noncomputable def o135 (P : Params) : Obj := ⟨.none, none, .fields ⟨[]⟩, ⟨[]⟩⟩
noncomputable def o136 (P : Params) : Obj := ⟨.type "tuple", none, .seq ⟨[.str s262 453]⟩ 0, ⟨[]⟩⟩
noncomputable def o137 (P : Params) : Obj := ⟨.type "tuple", none, .seq ⟨[]⟩ 0, ⟨[]⟩⟩
noncomputable def o138 (P : Params) : Obj := ⟨.none, none, .func (mkF (fnA 7) s261 s261 0 [] (.none) (.none) (.none) (.none) none (.none) (.none) 0), ⟨[]⟩⟩
noncomputable def o139 (P : Params) : Obj := ⟨.type "code", none, .fields ⟨[.str s261 450, .str s261 451, .str s176 452, .int 40 0, .int 1 0, .int 0 0, .int 0 0, .int 3 0, .ref 134, .bool true, .int 276 0, .ref 135, .none, .ref 136, .ref 137, .ref 138, .int 454 0, .int 40 0, .str s176 455]⟩, ⟨[]⟩⟩
noncomputable def o140 (P : Params) : Obj := ⟨.type "function", none, .func (mkF (fnA 7) s261 s261 3 [] (.none) (.none) (.none) (.str s259 388) none (.ref 139) (.none) 0), ⟨[]⟩⟩
noncomputable def o3_10 (P : Params) : Obj := ⟨.type "dict", none, .dict ⟨[⟨(kh P s0), .str s0 165, .str s259 388⟩, ⟨(kh P s2), .str s2 166, .none⟩, ⟨(kh P s3), .str s3 167, .none⟩, ⟨(kh P s4), .str s4 168, .builtin "__main__.__loader__#opaque"⟩, ⟨(kh P s5), .str s5 169, .none⟩, ⟨(kh P s173), .str s173 170, .ref 6⟩, ⟨(kh P s174), .str s174 171, .ref 4⟩, ⟨(kh P s175), .str s175 173, .str s176 172⟩, ⟨(kh P s177), .str s177 174, .none⟩, ⟨(kh P s161), .str s161 275, .ref 12⟩, ⟨(kh P s227), .str s227 288, .ref 38⟩, ⟨(kh P s230), .str s230 292, .str s179 291⟩, ⟨(kh P s231), .str s231 387, .ref 118⟩, ⟨(kh P s260), .str s260 449, .ref 130⟩, ⟨(kh P s261), .str s261 456, .ref 140⟩, ⟨(kh P s263), .str s263 2407, .ref 141⟩]⟩ 16, ⟨[]⟩⟩
noncomputable def o141 (P : Params) : Obj := ⟨.type "dict", none, .dict ⟨[⟨181, .int 181 457, .str s264 458⟩, ⟨223, .int 223 460, .str s265 461⟩, ⟨304, .int 304 463, .str s266 464⟩, ⟨329, .int 329 466, .str s267 467⟩, ⟨383, .int 383 469, .str s268 470⟩, ⟨496, .int 496 472, .str s269 473⟩, ⟨837, .int 837 475, .str s270 476⟩, ⟨890, .int 890 478, .str s271 479⟩, ⟨912, .int 912 481, .str s272 482⟩, ⟨944, .int 944 484, .str s273 485⟩, ⟨962, .int 962 487, .str s274 488⟩, ⟨976, .int 976 490, .str s275 491⟩, ⟨977, .int 977 493, .str s276 494⟩, ⟨978, .int 978 496, .str s277 497⟩, ⟨979, .int 979 499, .str s278 500⟩, ⟨980, .int 980 502, .str s279 503⟩, ⟨981, .int 981 505, .str s280 506⟩, ⟨982, .int 982 508, .str s281 509⟩, ⟨1008, .int 1008 511, .str s282 512⟩, ⟨1009, .int 1009 514, .str s283 515⟩, ⟨1010, .int 1010 517, .str s274 518⟩, ⟨1013, .int 1013 520, .str s284 521⟩, ⟨1415, .int 1415 523, .str s285 524⟩, ⟨7830, .int 7830 526, .str s286 527⟩, ⟨7831, .int 7831 529, .str s287 530⟩, ⟨7832, .int 7832 532, .str s288 533⟩, ⟨7833, .int 7833 535, .str s289 536⟩, ⟨7834, .int 7834 538, .str s290 539⟩, ⟨7835, .int 7835 541, .str s291 542⟩, ⟨8016, .int 8016 544, .str s292 545⟩, ⟨8018, .int 8018 547, .str s293 548⟩, ⟨8020, .int 8020 550, .str s294 551⟩, ⟨8022, .int 8022 553, .str s295 554⟩, ⟨8064, .int 8064 556, .str s296 557⟩, ⟨8065, .int 8065 559, .str s297 560⟩, ⟨8066, .int 8066 562, .str s298 563⟩, ⟨8067, .int 8067 565, .str s299 566⟩, ⟨8068, .int 8068 568, .str s300 569⟩, ⟨8069, .int 8069 571, .str s301 572⟩, ⟨8070, .int 8070 574, .str s302 575⟩, ⟨8071, .int 8071 577, .str s303 578⟩, ⟨8072, .int 8072 580, .str s296 581⟩, ⟨8073, .int 8073 583, .str s297 584⟩, ⟨8074, .int 8074 586, .str s298 587⟩, ⟨8075, .int 8075 589, .str s299 590⟩, ⟨8076, .int 8076 592, .str s300 593⟩, ⟨8077, .int 8077 595, .str s301 596⟩, ⟨8078, .int 8078 598, .str s302 599⟩, ⟨8079, .int 8079 601, .str s303 602⟩, ⟨8080, .int 8080 604, .str s304 605⟩, ⟨8081, .int 8081 607, .str s305 608⟩, ⟨8082, .int 8082 610, .str s306 611⟩, ⟨8083, .int 8083 613, .str s307 614⟩, ⟨8084, .int 8084 616, .str s308 617⟩, ⟨8085, .int 8085 619, .str s309 620⟩, ⟨8086, .int 8086 622, .str s310 623⟩, ⟨8087, .int 8087 625, .str s311 626⟩, ⟨8088, .int 8088 628, .str s304 629⟩, ⟨8089, .int 8089 631, .str s305 632⟩, ⟨8090, .int 8090 634, .str s306 635⟩, ⟨8091, .int 8091 637, .str s307 638⟩, ⟨8092, .int 8092 640, .str s308 641⟩, ⟨8093, .int 8093 643, .str s309 644⟩, ⟨8094, .int 8094 646, .str s310 647⟩, ⟨8095, .int 8095 649, .str s311 650⟩, ⟨8096, .int 8096 652, .str s312 653⟩, ⟨8097, .int 8097 655, .str s313 656⟩, ⟨8098, .int 8098 658, .str s314 659⟩, ⟨8099, .int 8099 661, .str s315 662⟩, ⟨8100, .int 8100 664, .str s316 665⟩, ⟨8101, .int 8101 667, .str s317 668⟩, ⟨8102, .int 8102 670, .str s318 671⟩, ⟨8103, .int 8103 673, .str s319 674⟩, ⟨8104, .int 8104 676, .str s312 677⟩, ⟨8105, .int 8105 679, .str s313 680⟩, ⟨8106, .int 8106 682, .str s314 683⟩, ⟨8107, .int 8107 685, .str s315 686⟩, ⟨8108, .int 8108 688, .str s316 689⟩, ⟨8109, .int 8109 691, .str s317 692⟩, ⟨8110, .int 8110 694, .str s318 695⟩, ⟨8111, .int 8111 697, .str s319 698⟩, ⟨8114, .int 8114 700, .str s320 701⟩, ⟨8115, .int 8115 703, .str s321 704⟩, ⟨8116, .int 8116 706, .str s322 707⟩, ⟨8118, .int 8118 709, .str s323 710⟩, ⟨8119, .int 8119 712, .str s324 713⟩, ⟨8124, .int 8124 715, .str s321 716⟩, ⟨8126, .int 8126 718, .str s270 719⟩, ⟨8130, .int 8130 721, .str s325 722⟩, ⟨8131, .int 8131 724, .str s326 725⟩, ⟨8132, .int 8132 727, .str s327 728⟩, ⟨8134, .int 8134 730, .str s328 731⟩, ⟨8135, .int 8135 733, .str s329 734⟩, ⟨8140, .int 8140 736, .str s326 737⟩, ⟨8146, .int 8146 739, .str s330 740⟩, ⟨8147, .int 8147 742, .str s272 743⟩, ⟨8150, .int 8150 745, .str s331 746⟩, ⟨8151, .int 8151 748, .str s332 749⟩, ⟨8162, .int 8162 751, .str s333 752⟩, ⟨8163, .int 8163 754, .str s273 755⟩, ⟨8164, .int 8164 757, .str s334 758⟩, ⟨8166, .int 8166 760, .str s335 761⟩, ⟨8167, .int 8167 763, .str s336 764⟩, ⟨8178, .int 8178 766, .str s337 767⟩, ⟨8179, .int 8179 769, .str s338 770⟩, ⟨8180, .int 8180 772, .str s339 773⟩, ⟨8182, .int 8182 775, .str s340 776⟩, ⟨8183, .int 8183 778, .str s341 779⟩, ⟨8188, .int 8188 781, .str s338 782⟩, ⟨8360, .int 8360 784, .str s342 785⟩, ⟨8450, .int 8450 787, .str s343 788⟩, ⟨8451, .int 8451 790, .str s344 791⟩, ⟨8455, .int 8455 793, .str s345 794⟩, ⟨8457, .int 8457 796, .str s346 797⟩, ⟨8459, .int 8459 799, .str s347 800⟩, ⟨8460, .int 8460 802, .str s347 803⟩, ⟨8461, .int 8461 805, .str s347 806⟩, ⟨8464, .int 8464 808, .str s249 809⟩, ⟨8465, .int 8465 811, .str s249 812⟩, ⟨8466, .int 8466 814, .str s348 815⟩, ⟨8469, .int 8469 817, .str s349 818⟩, ⟨8470, .int 8470 820, .str s350 821⟩, ⟨8473, .int 8473 823, .str s351 824⟩, ⟨8474, .int 8474 826, .str s352 827⟩, ⟨8475, .int 8475 829, .str s353 830⟩, ⟨8476, .int 8476 832, .str s353 833⟩, ⟨8477, .int 8477 835, .str s353 836⟩, ⟨8480, .int 8480 838, .str s354 839⟩, ⟨8481, .int 8481 841, .str s355 842⟩, ⟨8482, .int 8482 844, .str s356 845⟩, ⟨8484, .int 8484 847, .str s357 848⟩, ⟨8488, .int 8488 850, .str s357 851⟩, ⟨8492, .int 8492 853, .str s358 854⟩, ⟨8493, .int 8493 856, .str s343 857⟩, ⟨8496, .int 8496 859, .str s359 860⟩, ⟨8497, .int 8497 862, .str s360 863⟩, ⟨8499, .int 8499 865, .str s361 866⟩, ⟨8510, .int 8510 868, .str s362 869⟩, ⟨8511, .int 8511 871, .str s281 872⟩, ⟨8517, .int 8517 874, .str s363 875⟩, ⟨13169, .int 13169 877, .str s364 878⟩, ⟨13171, .int 13171 880, .str s365 881⟩, ⟨13173, .int 13173 883, .str s366 884⟩, ⟨13184, .int 13184 886, .str s367 887⟩, ⟨13185, .int 13185 889, .str s368 890⟩, ⟨13186, .int 13186 892, .str s369 893⟩, ⟨13187, .int 13187 895, .str s370 896⟩, ⟨13188, .int 13188 898, .str s371 899⟩, ⟨13189, .int 13189 901, .str s372 902⟩, ⟨13190, .int 13190 904, .str s373 905⟩, ⟨13191, .int 13191 907, .str s374 908⟩, ⟨13194, .int 13194 910, .str s375 911⟩, ⟨13195, .int 13195 913, .str s376 914⟩, ⟨13196, .int 13196 916, .str s377 917⟩, ⟨13200, .int 13200 919, .str s378 920⟩, ⟨13201, .int 13201 922, .str s379 923⟩, ⟨13202, .int 13202 925, .str s380 926⟩, ⟨13203, .int 13203 928, .str s381 929⟩, ⟨13204, .int 13204 931, .str s382 932⟩, ⟨13225, .int 13225 934, .str s367 935⟩, ⟨13226, .int 13226 937, .str s383 938⟩, ⟨13227, .int 13227 940, .str s384 941⟩, ⟨13228, .int 13228 943, .str s385 944⟩, ⟨13236, .int 13236 946, .str s386 947⟩, ⟨13237, .int 13237 949, .str s387 950⟩, ⟨13238, .int 13238 952, .str s388 953⟩, ⟨13239, .int 13239 955, .str s389 956⟩, ⟨13240, .int 13240 958, .str s390 959⟩, ⟨13241, .int 13241 961, .str s389 962⟩, ⟨13242, .int 13242 964, .str s391 965⟩, ⟨13243, .int 13243 967, .str s392 968⟩, ⟨13244, .int 13244 970, .str s393 971⟩, ⟨13245, .int 13245 973, .str s394 974⟩, ⟨13246, .int 13246 976, .str s395 977⟩, ⟨13247, .int 13247 979, .str s394 980⟩, ⟨13248, .int 13248 982, .str s396 983⟩, ⟨13249, .int 13249 985, .str s397 986⟩, ⟨13251, .int 13251 988, .str s398 989⟩, ⟨13254, .int 13254 991, .str s399 992⟩, ⟨13255, .int 13255 994, .str s400 995⟩, ⟨13256, .int 13256 997, .str s401 998⟩, ⟨13257, .int 13257 1000, .str s402 1001⟩, ⟨13259, .int 13259 1003, .str s403 1004⟩, ⟨13261, .int 13261 1006, .str s404 1007⟩, ⟨13262, .int 13262 1009, .str s405 1010⟩, ⟨13271, .int 13271 1012, .str s406 1013⟩, ⟨13273, .int 13273 1015, .str s407 1016⟩, ⟨13274, .int 13274 1018, .str s408 1019⟩, ⟨13276, .int 13276 1021, .str s409 1022⟩, ⟨13277, .int 13277 1024, .str s410 1025⟩, ⟨64256, .int 64256 1027, .str s411 1028⟩, ⟨64257, .int 64257 1030, .str s412 1031⟩, ⟨64258, .int 64258 1033, .str s413 1034⟩, ⟨64259, .int 64259 1036, .str s414 1037⟩, ⟨64260, .int 64260 1039, .str s415 1040⟩, ⟨64261, .int 64261 1042, .str s416 1043⟩, ⟨64262, .int 64262 1045, .str s416 1046⟩, ⟨64275, .int 64275 1048, .str s417 1049⟩, ⟨64276, .int 64276 1051, .str s418 1052⟩, ⟨64277, .int 64277 1054, .str s419 1055⟩, ⟨64278, .int 64278 1057, .str s420 1058⟩, ⟨64279, .int 64279 1060, .str s421 1061⟩, ⟨119808, .int 119808 1063, .str s422 1064⟩, ⟨119809, .int 119809 1066, .str s358 1067⟩, ⟨119810, .int 119810 1069, .str s343 1070⟩, ⟨119811, .int 119811 1072, .str s363 1073⟩, ⟨119812, .int 119812 1075, .str s359 1076⟩, ⟨119813, .int 119813 1078, .str s360 1079⟩, ⟨119814, .int 119814 1081, .str s423 1082⟩, ⟨119815, .int 119815 1084, .str s347 1085⟩, ⟨119816, .int 119816 1087, .str s249 1088⟩, ⟨119817, .int 119817 1090, .str s424 1091⟩, ⟨119818, .int 119818 1093, .str s228 1094⟩, ⟨119819, .int 119819 1096, .str s348 1097⟩, ⟨119820, .int 119820 1099, .str s361 1100⟩, ⟨119821, .int 119821 1102, .str s349 1103⟩, ⟨119822, .int 119822 1105, .str s425 1106⟩, ⟨119823, .int 119823 1108, .str s351 1109⟩, ⟨119824, .int 119824 1111, .str s352 1112⟩, ⟨119825, .int 119825 1114, .str s353 1115⟩, ⟨119826, .int 119826 1117, .str s268 1118⟩, ⟨119827, .int 119827 1120, .str s426 1121⟩, ⟨119828, .int 119828 1123, .str s427 1124⟩, ⟨119829, .int 119829 1126, .str s428 1127⟩, ⟨119830, .int 119830 1129, .str s429 1130⟩, ⟨119831, .int 119831 1132, .str s430 1133⟩, ⟨119832, .int 119832 1135, .str s431 1136⟩, ⟨119833, .int 119833 1138, .str s357 1139⟩, ⟨119860, .int 119860 1141, .str s422 1142⟩, ⟨119861, .int 119861 1144, .str s358 1145⟩, ⟨119862, .int 119862 1147, .str s343 1148⟩, ⟨119863, .int 119863 1150, .str s363 1151⟩, ⟨119864, .int 119864 1153, .str s359 1154⟩, ⟨119865, .int 119865 1156, .str s360 1157⟩, ⟨119866, .int 119866 1159, .str s423 1160⟩, ⟨119867, .int 119867 1162, .str s347 1163⟩, ⟨119868, .int 119868 1165, .str s249 1166⟩, ⟨119869, .int 119869 1168, .str s424 1169⟩, ⟨119870, .int 119870 1171, .str s228 1172⟩, ⟨119871, .int 119871 1174, .str s348 1175⟩, ⟨119872, .int 119872 1177, .str s361 1178⟩, ⟨119873, .int 119873 1180, .str s349 1181⟩, ⟨119874, .int 119874 1183, .str s425 1184⟩, ⟨119875, .int 119875 1186, .str s351 1187⟩, ⟨119876, .int 119876 1189, .str s352 1190⟩, ⟨119877, .int 119877 1192, .str s353 1193⟩, ⟨119878, .int 119878 1195, .str s268 1196⟩, ⟨119879, .int 119879 1198, .str s426 1199⟩, ⟨119880, .int 119880 1201, .str s427 1202⟩, ⟨119881, .int 119881 1204, .str s428 1205⟩, ⟨119882, .int 119882 1207, .str s429 1208⟩, ⟨119883, .int 119883 1210, .str s430 1211⟩, ⟨119884, .int 119884 1213, .str s431 1214⟩, ⟨119885, .int 119885 1216, .str s357 1217⟩, ⟨119912, .int 119912 1219, .str s422 1220⟩, ⟨119913, .int 119913 1222, .str s358 1223⟩, ⟨119914, .int 119914 1225, .str s343 1226⟩, ⟨119915, .int 119915 1228, .str s363 1229⟩, ⟨119916, .int 119916 1231, .str s359 1232⟩, ⟨119917, .int 119917 1234, .str s360 1235⟩, ⟨119918, .int 119918 1237, .str s423 1238⟩, ⟨119919, .int 119919 1240, .str s347 1241⟩, ⟨119920, .int 119920 1243, .str s249 1244⟩, ⟨119921, .int 119921 1246, .str s424 1247⟩, ⟨119922, .int 119922 1249, .str s228 1250⟩, ⟨119923, .int 119923 1252, .str s348 1253⟩, ⟨119924, .int 119924 1255, .str s361 1256⟩, ⟨119925, .int 119925 1258, .str s349 1259⟩, ⟨119926, .int 119926 1261, .str s425 1262⟩, ⟨119927, .int 119927 1264, .str s351 1265⟩, ⟨119928, .int 119928 1267, .str s352 1268⟩, ⟨119929, .int 119929 1270, .str s353 1271⟩, ⟨119930, .int 119930 1273, .str s268 1274⟩, ⟨119931, .int 119931 1276, .str s426 1277⟩, ⟨119932, .int 119932 1279, .str s427 1280⟩, ⟨119933, .int 119933 1282, .str s428 1283⟩, ⟨119934, .int 119934 1285, .str s429 1286⟩, ⟨119935, .int 119935 1288, .str s430 1289⟩, ⟨119936, .int 119936 1291, .str s431 1292⟩, ⟨119937, .int 119937 1294, .str s357 1295⟩, ⟨119964, .int 119964 1297, .str s422 1298⟩, ⟨119966, .int 119966 1300, .str s343 1301⟩, ⟨119967, .int 119967 1303, .str s363 1304⟩, ⟨119970, .int 119970 1306, .str s423 1307⟩, ⟨119973, .int 119973 1309, .str s424 1310⟩, ⟨119974, .int 119974 1312, .str s228 1313⟩, ⟨119977, .int 119977 1315, .str s349 1316⟩, ⟨119978, .int 119978 1318, .str s425 1319⟩, ⟨119979, .int 119979 1321, .str s351 1322⟩, ⟨119980, .int 119980 1324, .str s352 1325⟩, ⟨119982, .int 119982 1327, .str s268 1328⟩, ⟨119983, .int 119983 1330, .str s426 1331⟩, ⟨119984, .int 119984 1333, .str s427 1334⟩, ⟨119985, .int 119985 1336, .str s428 1337⟩, ⟨119986, .int 119986 1339, .str s429 1340⟩, ⟨119987, .int 119987 1342, .str s430 1343⟩, ⟨119988, .int 119988 1345, .str s431 1346⟩, ⟨119989, .int 119989 1348, .str s357 1349⟩, ⟨120016, .int 120016 1351, .str s422 1352⟩, ⟨120017, .int 120017 1354, .str s358 1355⟩, ⟨120018, .int 120018 1357, .str s343 1358⟩, ⟨120019, .int 120019 1360, .str s363 1361⟩, ⟨120020, .int 120020 1363, .str s359 1364⟩, ⟨120021, .int 120021 1366, .str s360 1367⟩, ⟨120022, .int 120022 1369, .str s423 1370⟩, ⟨120023, .int 120023 1372, .str s347 1373⟩, ⟨120024, .int 120024 1375, .str s249 1376⟩, ⟨120025, .int 120025 1378, .str s424 1379⟩, ⟨120026, .int 120026 1381, .str s228 1382⟩, ⟨120027, .int 120027 1384, .str s348 1385⟩, ⟨120028, .int 120028 1387, .str s361 1388⟩, ⟨120029, .int 120029 1390, .str s349 1391⟩, ⟨120030, .int 120030 1393, .str s425 1394⟩, ⟨120031, .int 120031 1396, .str s351 1397⟩, ⟨120032, .int 120032 1399, .str s352 1400⟩, ⟨120033, .int 120033 1402, .str s353 1403⟩, ⟨120034, .int 120034 1405, .str s268 1406⟩, ⟨120035, .int 120035 1408, .str s426 1409⟩, ⟨120036, .int 120036 1411, .str s427 1412⟩, ⟨120037, .int 120037 1414, .str s428 1415⟩, ⟨120038, .int 120038 1417, .str s429 1418⟩, ⟨120039, .int 120039 1420, .str s430 1421⟩, ⟨120040, .int 120040 1423, .str s431 1424⟩, ⟨120041, .int 120041 1426, .str s357 1427⟩, ⟨120068, .int 120068 1429, .str s422 1430⟩, ⟨120069, .int 120069 1432, .str s358 1433⟩, ⟨120071, .int 120071 1435, .str s363 1436⟩, ⟨120072, .int 120072 1438, .str s359 1439⟩, ⟨120073, .int 120073 1441, .str s360 1442⟩, ⟨120074, .int 120074 1444, .str s423 1445⟩, ⟨120077, .int 120077 1447, .str s424 1448⟩, ⟨120078, .int 120078 1450, .str s228 1451⟩, ⟨120079, .int 120079 1453, .str s348 1454⟩, ⟨120080, .int 120080 1456, .str s361 1457⟩, ⟨120081, .int 120081 1459, .str s349 1460⟩, ⟨120082, .int 120082 1462, .str s425 1463⟩, ⟨120083, .int 120083 1465, .str s351 1466⟩, ⟨120084, .int 120084 1468, .str s352 1469⟩, ⟨120086, .int 120086 1471, .str s268 1472⟩, ⟨120087, .int 120087 1474, .str s426 1475⟩, ⟨120088, .int 120088 1477, .str s427 1478⟩, ⟨120089, .int 120089 1480, .str s428 1481⟩, ⟨120090, .int 120090 1483, .str s429 1484⟩, ⟨120091, .int 120091 1486, .str s430 1487⟩, ⟨120092, .int 120092 1489, .str s431 1490⟩, ⟨120120, .int 120120 1492, .str s422 1493⟩, ⟨120121, .int 120121 1495, .str s358 1496⟩, ⟨120123, .int 120123 1498, .str s363 1499⟩, ⟨120124, .int 120124 1501, .str s359 1502⟩, ⟨120125, .int 120125 1504, .str s360 1505⟩, ⟨120126, .int 120126 1507, .str s423 1508⟩, ⟨120128, .int 120128 1510, .str s249 1511⟩, ⟨120129, .int 120129 1513, .str s424 1514⟩, ⟨120130, .int 120130 1516, .str s228 1517⟩, ⟨120131, .int 120131 1519, .str s348 1520⟩, ⟨120132, .int 120132 1522, .str s361 1523⟩, ⟨120134, .int 120134 1525, .str s425 1526⟩, ⟨120138, .int 120138 1528, .str s268 1529⟩, ⟨120139, .int 120139 1531, .str s426 1532⟩, ⟨120140, .int 120140 1534, .str s427 1535⟩, ⟨120141, .int 120141 1537, .str s428 1538⟩, ⟨120142, .int 120142 1540, .str s429 1541⟩, ⟨120143, .int 120143 1543, .str s430 1544⟩, ⟨120144, .int 120144 1546, .str s431 1547⟩, ⟨120172, .int 120172 1549, .str s422 1550⟩, ⟨120173, .int 120173 1552, .str s358 1553⟩, ⟨120174, .int 120174 1555, .str s343 1556⟩, ⟨120175, .int 120175 1558, .str s363 1559⟩, ⟨120176, .int 120176 1561, .str s359 1562⟩, ⟨120177, .int 120177 1564, .str s360 1565⟩, ⟨120178, .int 120178 1567, .str s423 1568⟩, ⟨120179, .int 120179 1570, .str s347 1571⟩, ⟨120180, .int 120180 1573, .str s249 1574⟩, ⟨120181, .int 120181 1576, .str s424 1577⟩, ⟨120182, .int 120182 1579, .str s228 1580⟩, ⟨120183, .int 120183 1582, .str s348 1583⟩, ⟨120184, .int 120184 1585, .str s361 1586⟩, ⟨120185, .int 120185 1588, .str s349 1589⟩, ⟨120186, .int 120186 1591, .str s425 1592⟩, ⟨120187, .int 120187 1594, .str s351 1595⟩, ⟨120188, .int 120188 1597, .str s352 1598⟩, ⟨120189, .int 120189 1600, .str s353 1601⟩, ⟨120190, .int 120190 1603, .str s268 1604⟩, ⟨120191, .int 120191 1606, .str s426 1607⟩, ⟨120192, .int 120192 1609, .str s427 1610⟩, ⟨120193, .int 120193 1612, .str s428 1613⟩, ⟨120194, .int 120194 1615, .str s429 1616⟩, ⟨120195, .int 120195 1618, .str s430 1619⟩, ⟨120196, .int 120196 1621, .str s431 1622⟩, ⟨120197, .int 120197 1624, .str s357 1625⟩, ⟨120224, .int 120224 1627, .str s422 1628⟩, ⟨120225, .int 120225 1630, .str s358 1631⟩, ⟨120226, .int 120226 1633, .str s343 1634⟩, ⟨120227, .int 120227 1636, .str s363 1637⟩, ⟨120228, .int 120228 1639, .str s359 1640⟩, ⟨120229, .int 120229 1642, .str s360 1643⟩, ⟨120230, .int 120230 1645, .str s423 1646⟩, ⟨120231, .int 120231 1648, .str s347 1649⟩, ⟨120232, .int 120232 1651, .str s249 1652⟩, ⟨120233, .int 120233 1654, .str s424 1655⟩, ⟨120234, .int 120234 1657, .str s228 1658⟩, ⟨120235, .int 120235 1660, .str s348 1661⟩, ⟨120236, .int 120236 1663, .str s361 1664⟩, ⟨120237, .int 120237 1666, .str s349 1667⟩, ⟨120238, .int 120238 1669, .str s425 1670⟩, ⟨120239, .int 120239 1672, .str s351 1673⟩, ⟨120240, .int 120240 1675, .str s352 1676⟩, ⟨120241, .int 120241 1678, .str s353 1679⟩, ⟨120242, .int 120242 1681, .str s268 1682⟩, ⟨120243, .int 120243 1684, .str s426 1685⟩, ⟨120244, .int 120244 1687, .str s427 1688⟩, ⟨120245, .int 120245 1690, .str s428 1691⟩, ⟨120246, .int 120246 1693, .str s429 1694⟩, ⟨120247, .int 120247 1696, .str s430 1697⟩, ⟨120248, .int 120248 1699, .str s431 1700⟩, ⟨120249, .int 120249 1702, .str s357 1703⟩, ⟨120276, .int 120276 1705, .str s422 1706⟩, ⟨120277, .int 120277 1708, .str s358 1709⟩, ⟨120278, .int 120278 1711, .str s343 1712⟩, ⟨120279, .int 120279 1714, .str s363 1715⟩, ⟨120280, .int 120280 1717, .str s359 1718⟩, ⟨120281, .int 120281 1720, .str s360 1721⟩, ⟨120282, .int 120282 1723, .str s423 1724⟩, ⟨120283, .int 120283 1726, .str s347 1727⟩, ⟨120284, .int 120284 1729, .str s249 1730⟩, ⟨120285, .int 120285 1732, .str s424 1733⟩, ⟨120286, .int 120286 1735, .str s228 1736⟩, ⟨120287, .int 120287 1738, .str s348 1739⟩, ⟨120288, .int 120288 1741, .str s361 1742⟩, ⟨120289, .int 120289 1744, .str s349 1745⟩, ⟨120290, .int 120290 1747, .str s425 1748⟩, ⟨120291, .int 120291 1750, .str s351 1751⟩, ⟨120292, .int 120292 1753, .str s352 1754⟩, ⟨120293, .int 120293 1756, .str s353 1757⟩, ⟨120294, .int 120294 1759, .str s268 1760⟩, ⟨120295, .int 120295 1762, .str s426 1763⟩, ⟨120296, .int 120296 1765, .str s427 1766⟩, ⟨120297, .int 120297 1768, .str s428 1769⟩, ⟨120298, .int 120298 1771, .str s429 1772⟩, ⟨120299, .int 120299 1774, .str s430 1775⟩, ⟨120300, .int 120300 1777, .str s431 1778⟩, ⟨120301, .int 120301 1780, .str s357 1781⟩, ⟨120328, .int 120328 1783, .str s422 1784⟩, ⟨120329, .int 120329 1786, .str s358 1787⟩, ⟨120330, .int 120330 1789, .str s343 1790⟩, ⟨120331, .int 120331 1792, .str s363 1793⟩, ⟨120332, .int 120332 1795, .str s359 1796⟩, ⟨120333, .int 120333 1798, .str s360 1799⟩, ⟨120334, .int 120334 1801, .str s423 1802⟩, ⟨120335, .int 120335 1804, .str s347 1805⟩, ⟨120336, .int 120336 1807, .str s249 1808⟩, ⟨120337, .int 120337 1810, .str s424 1811⟩, ⟨120338, .int 120338 1813, .str s228 1814⟩, ⟨120339, .int 120339 1816, .str s348 1817⟩, ⟨120340, .int 120340 1819, .str s361 1820⟩, ⟨120341, .int 120341 1822, .str s349 1823⟩, ⟨120342, .int 120342 1825, .str s425 1826⟩, ⟨120343, .int 120343 1828, .str s351 1829⟩, ⟨120344, .int 120344 1831, .str s352 1832⟩, ⟨120345, .int 120345 1834, .str s353 1835⟩, ⟨120346, .int 120346 1837, .str s268 1838⟩, ⟨120347, .int 120347 1840, .str s426 1841⟩, ⟨120348, .int 120348 1843, .str s427 1844⟩, ⟨120349, .int 120349 1846, .str s428 1847⟩, ⟨120350, .int 120350 1849, .str s429 1850⟩, ⟨120351, .int 120351 1852, .str s430 1853⟩, ⟨120352, .int 120352 1855, .str s431 1856⟩, ⟨120353, .int 120353 1858, .str s357 1859⟩, ⟨120380, .int 120380 1861, .str s422 1862⟩, ⟨120381, .int 120381 1864, .str s358 1865⟩, ⟨120382, .int 120382 1867, .str s343 1868⟩, ⟨120383, .int 120383 1870, .str s363 1871⟩, ⟨120384, .int 120384 1873, .str s359 1874⟩, ⟨120385, .int 120385 1876, .str s360 1877⟩, ⟨120386, .int 120386 1879, .str s423 1880⟩, ⟨120387, .int 120387 1882, .str s347 1883⟩, ⟨120388, .int 120388 1885, .str s249 1886⟩, ⟨120389, .int 120389 1888, .str s424 1889⟩, ⟨120390, .int 120390 1891, .str s228 1892⟩, ⟨120391, .int 120391 1894, .str s348 1895⟩, ⟨120392, .int 120392 1897, .str s361 1898⟩, ⟨120393, .int 120393 1900, .str s349 1901⟩, ⟨120394, .int 120394 1903, .str s425 1904⟩, ⟨120395, .int 120395 1906, .str s351 1907⟩, ⟨120396, .int 120396 1909, .str s352 1910⟩, ⟨120397, .int 120397 1912, .str s353 1913⟩, ⟨120398, .int 120398 1915, .str s268 1916⟩, ⟨120399, .int 120399 1918, .str s426 1919⟩, ⟨120400, .int 120400 1921, .str s427 1922⟩, ⟨120401, .int 120401 1924, .str s428 1925⟩, ⟨120402, .int 120402 1927, .str s429 1928⟩, ⟨120403, .int 120403 1930, .str s430 1931⟩, ⟨120404, .int 120404 1933, .str s431 1934⟩, ⟨120405, .int 120405 1936, .str s357 1937⟩, ⟨120432, .int 120432 1939, .str s422 1940⟩, ⟨120433, .int 120433 1942, .str s358 1943⟩, ⟨120434, .int 120434 1945, .str s343 1946⟩, ⟨120435, .int 120435 1948, .str s363 1949⟩, ⟨120436, .int 120436 1951, .str s359 1952⟩, ⟨120437, .int 120437 1954, .str s360 1955⟩, ⟨120438, .int 120438 1957, .str s423 1958⟩, ⟨120439, .int 120439 1960, .str s347 1961⟩, ⟨120440, .int 120440 1963, .str s249 1964⟩, ⟨120441, .int 120441 1966, .str s424 1967⟩, ⟨120442, .int 120442 1969, .str s228 1970⟩, ⟨120443, .int 120443 1972, .str s348 1973⟩, ⟨120444, .int 120444 1975, .str s361 1976⟩, ⟨120445, .int 120445 1978, .str s349 1979⟩, ⟨120446, .int 120446 1981, .str s425 1982⟩, ⟨120447, .int 120447 1984, .str s351 1985⟩, ⟨120448, .int 120448 1987, .str s352 1988⟩, ⟨120449, .int 120449 1990, .str s353 1991⟩, ⟨120450, .int 120450 1993, .str s268 1994⟩, ⟨120451, .int 120451 1996, .str s426 1997⟩, ⟨120452, .int 120452 1999, .str s427 2000⟩, ⟨120453, .int 120453 2002, .str s428 2003⟩, ⟨120454, .int 120454 2005, .str s429 2006⟩, ⟨120455, .int 120455 2008, .str s430 2009⟩, ⟨120456, .int 120456 2011, .str s431 2012⟩, ⟨120457, .int 120457 2014, .str s357 2015⟩, ⟨120488, .int 120488 2017, .str s432 2018⟩, ⟨120489, .int 120489 2020, .str s275 2021⟩, ⟨120490, .int 120490 2023, .str s362 2024⟩, ⟨120491, .int 120491 2026, .str s433 2027⟩, ⟨120492, .int 120492 2029, .str s284 2030⟩, ⟨120493, .int 120493 2032, .str s434 2033⟩, ⟨120494, .int 120494 2035, .str s435 2036⟩, ⟨120495, .int 120495 2038, .str s276 2039⟩, ⟨120496, .int 120496 2041, .str s270 2042⟩, ⟨120497, .int 120497 2044, .str s282 2045⟩, ⟨120498, .int 120498 2047, .str s436 2048⟩, ⟨120499, .int 120499 2050, .str s264 2051⟩, ⟨120500, .int 120500 2053, .str s437 2054⟩, ⟨120501, .int 120501 2056, .str s438 2057⟩, ⟨120502, .int 120502 2059, .str s439 2060⟩, ⟨120503, .int 120503 2062, .str s281 2063⟩, ⟨120504, .int 120504 2065, .str s283 2066⟩, ⟨120505, .int 120505 2068, .str s276 2069⟩, ⟨120506, .int 120506 2071, .str s274 2072⟩, ⟨120507, .int 120507 2074, .str s440 2075⟩, ⟨120508, .int 120508 2077, .str s277 2078⟩, ⟨120509, .int 120509 2080, .str s280 2081⟩, ⟨120510, .int 120510 2083, .str s441 2084⟩, ⟨120511, .int 120511 2086, .str s442 2087⟩, ⟨120512, .int 120512 2089, .str s443 2090⟩, ⟨120531, .int 120531 2092, .str s274 2093⟩, ⟨120546, .int 120546 2095, .str s432 2096⟩, ⟨120547, .int 120547 2098, .str s275 2099⟩, ⟨120548, .int 120548 2101, .str s362 2102⟩, ⟨120549, .int 120549 2104, .str s433 2105⟩, ⟨120550, .int 120550 2107, .str s284 2108⟩, ⟨120551, .int 120551 2110, .str s434 2111⟩, ⟨120552, .int 120552 2113, .str s435 2114⟩, ⟨120553, .int 120553 2116, .str s276 2117⟩, ⟨120554, .int 120554 2119, .str s270 2120⟩, ⟨120555, .int 120555 2122, .str s282 2123⟩, ⟨120556, .int 120556 2125, .str s436 2126⟩, ⟨120557, .int 120557 2128, .str s264 2129⟩, ⟨120558, .int 120558 2131, .str s437 2132⟩, ⟨120559, .int 120559 2134, .str s438 2135⟩, ⟨120560, .int 120560 2137, .str s439 2138⟩, ⟨120561, .int 120561 2140, .str s281 2141⟩, ⟨120562, .int 120562 2143, .str s283 2144⟩, ⟨120563, .int 120563 2146, .str s276 2147⟩, ⟨120564, .int 120564 2149, .str s274 2150⟩, ⟨120565, .int 120565 2152, .str s440 2153⟩, ⟨120566, .int 120566 2155, .str s277 2156⟩, ⟨120567, .int 120567 2158, .str s280 2159⟩, ⟨120568, .int 120568 2161, .str s441 2162⟩, ⟨120569, .int 120569 2164, .str s442 2165⟩, ⟨120570, .int 120570 2167, .str s443 2168⟩, ⟨120589, .int 120589 2170, .str s274 2171⟩, ⟨120604, .int 120604 2173, .str s432 2174⟩, ⟨120605, .int 120605 2176, .str s275 2177⟩, ⟨120606, .int 120606 2179, .str s362 2180⟩, ⟨120607, .int 120607 2182, .str s433 2183⟩, ⟨120608, .int 120608 2185, .str s284 2186⟩, ⟨120609, .int 120609 2188, .str s434 2189⟩, ⟨120610, .int 120610 2191, .str s435 2192⟩, ⟨120611, .int 120611 2194, .str s276 2195⟩, ⟨120612, .int 120612 2197, .str s270 2198⟩, ⟨120613, .int 120613 2200, .str s282 2201⟩, ⟨120614, .int 120614 2203, .str s436 2204⟩, ⟨120615, .int 120615 2206, .str s264 2207⟩, ⟨120616, .int 120616 2209, .str s437 2210⟩, ⟨120617, .int 120617 2212, .str s438 2213⟩, ⟨120618, .int 120618 2215, .str s439 2216⟩, ⟨120619, .int 120619 2218, .str s281 2219⟩, ⟨120620, .int 120620 2221, .str s283 2222⟩, ⟨120621, .int 120621 2224, .str s276 2225⟩, ⟨120622, .int 120622 2227, .str s274 2228⟩, ⟨120623, .int 120623 2230, .str s440 2231⟩, ⟨120624, .int 120624 2233, .str s277 2234⟩, ⟨120625, .int 120625 2236, .str s280 2237⟩, ⟨120626, .int 120626 2239, .str s441 2240⟩, ⟨120627, .int 120627 2242, .str s442 2243⟩, ⟨120628, .int 120628 2245, .str s443 2246⟩, ⟨120647, .int 120647 2248, .str s274 2249⟩, ⟨120662, .int 120662 2251, .str s432 2252⟩, ⟨120663, .int 120663 2254, .str s275 2255⟩, ⟨120664, .int 120664 2257, .str s362 2258⟩, ⟨120665, .int 120665 2260, .str s433 2261⟩, ⟨120666, .int 120666 2263, .str s284 2264⟩, ⟨120667, .int 120667 2266, .str s434 2267⟩, ⟨120668, .int 120668 2269, .str s435 2270⟩, ⟨120669, .int 120669 2272, .str s276 2273⟩, ⟨120670, .int 120670 2275, .str s270 2276⟩, ⟨120671, .int 120671 2278, .str s282 2279⟩, ⟨120672, .int 120672 2281, .str s436 2282⟩, ⟨120673, .int 120673 2284, .str s264 2285⟩, ⟨120674, .int 120674 2287, .str s437 2288⟩, ⟨120675, .int 120675 2290, .str s438 2291⟩, ⟨120676, .int 120676 2293, .str s439 2294⟩, ⟨120677, .int 120677 2296, .str s281 2297⟩, ⟨120678, .int 120678 2299, .str s283 2300⟩, ⟨120679, .int 120679 2302, .str s276 2303⟩, ⟨120680, .int 120680 2305, .str s274 2306⟩, ⟨120681, .int 120681 2308, .str s440 2309⟩, ⟨120682, .int 120682 2311, .str s277 2312⟩, ⟨120683, .int 120683 2314, .str s280 2315⟩, ⟨120684, .int 120684 2317, .str s441 2318⟩, ⟨120685, .int 120685 2320, .str s442 2321⟩, ⟨120686, .int 120686 2323, .str s443 2324⟩, ⟨120705, .int 120705 2326, .str s274 2327⟩, ⟨120720, .int 120720 2329, .str s432 2330⟩, ⟨120721, .int 120721 2332, .str s275 2333⟩, ⟨120722, .int 120722 2335, .str s362 2336⟩, ⟨120723, .int 120723 2338, .str s433 2339⟩, ⟨120724, .int 120724 2341, .str s284 2342⟩, ⟨120725, .int 120725 2344, .str s434 2345⟩, ⟨120726, .int 120726 2347, .str s435 2348⟩, ⟨120727, .int 120727 2350, .str s276 2351⟩, ⟨120728, .int 120728 2353, .str s270 2354⟩, ⟨120729, .int 120729 2356, .str s282 2357⟩, ⟨120730, .int 120730 2359, .str s436 2360⟩, ⟨120731, .int 120731 2362, .str s264 2363⟩, ⟨120732, .int 120732 2365, .str s437 2366⟩, ⟨120733, .int 120733 2368, .str s438 2369⟩, ⟨120734, .int 120734 2371, .str s439 2372⟩, ⟨120735, .int 120735 2374, .str s281 2375⟩, ⟨120736, .int 120736 2377, .str s283 2378⟩, ⟨120737, .int 120737 2380, .str s276 2381⟩, ⟨120738, .int 120738 2383, .str s274 2384⟩, ⟨120739, .int 120739 2386, .str s440 2387⟩, ⟨120740, .int 120740 2389, .str s277 2390⟩, ⟨120741, .int 120741 2392, .str s280 2393⟩, ⟨120742, .int 120742 2395, .str s441 2396⟩, ⟨120743, .int 120743 2397, .str s442 2398⟩, ⟨120744, .int 120744 2399, .str s443 2400⟩, ⟨120763, .int 120763 2401, .str s274 2402⟩]⟩ 650, ⟨[]⟩⟩
noncomputable def o142 (P : Params) : Obj := dictO (entL 508 kv1) 17
noncomputable def o143 (P : Params) : Obj := dictO (entL 559 kv2) 17
noncomputable def o144 (P : Params) : Obj := dictO (entL 610 kv3) 17
noncomputable def o145 (P : Params) : Obj := dictO (entL 661 kv4) 17
noncomputable def o146 (P : Params) : Obj := dictO (entL 712 kv5) 17
noncomputable def o147 (P : Params) : Obj := dictO (entL 763 kv6) 17
noncomputable def o148 (P : Params) : Obj := dictO (entL 814 kv7) 17
noncomputable def o149 (P : Params) : Obj := dictO (entL 865 kv8) 17
noncomputable def o150 (P : Params) : Obj := dictO (entL 916 kv9) 17
noncomputable def o151 (P : Params) : Obj := dictO (entL 967 kv10) 17
noncomputable def o152 (P : Params) : Obj := dictO (entL 1018 kv11) 17
noncomputable def o153 (P : Params) : Obj := dictO (entL 1069 kv12) 17
noncomputable def o154 (P : Params) : Obj := dictO (entL 1120 kv13) 17
noncomputable def o155 (P : Params) : Obj := dictO (entL 1171 kv14) 17
noncomputable def o156 (P : Params) : Obj := dictO (entL 1222 kv15) 17
noncomputable def o157 (P : Params) : Obj := dictO (entL 1273 kv16) 17
noncomputable def o158 (P : Params) : Obj := dictO (entL 1324 kv17) 17
noncomputable def o159 (P : Params) : Obj := dictO (entL 1375 kv18) 17
noncomputable def o160 (P : Params) : Obj := dictO (entL 1426 kv19) 17
noncomputable def o161 (P : Params) : Obj := dictO (entL 1477 kv20) 17
noncomputable def o162 (P : Params) : Obj := dictO (entL 1528 kv21) 17
noncomputable def o163 (P : Params) : Obj := dictO (entL 1579 kv22) 17
noncomputable def o164 (P : Params) : Obj := dictO (entL 1630 kv23) 17
noncomputable def o165 (P : Params) : Obj := dictO (entL 1681 kv24) 17
noncomputable def o166 (P : Params) : Obj := dictO (entL 1732 kv25) 17
noncomputable def o167 (P : Params) : Obj := dictO (entL 1783 kv26) 17
noncomputable def o168 (P : Params) : Obj := dictO (entL 1834 kv27) 17
noncomputable def o169 (P : Params) : Obj := dictO (entL 1885 kv28) 17
noncomputable def o170 (P : Params) : Obj := dictO (entL 1936 kv29) 17
noncomputable def o171 (P : Params) : Obj := dictO (entL 1987 kv30) 17
noncomputable def o172 (P : Params) : Obj := dictO (entL 2038 kv31) 17
noncomputable def o173 (P : Params) : Obj := dictO (entL 2089 kv32) 17
noncomputable def o174 (P : Params) : Obj := dictO (entL 2140 kv33) 17
noncomputable def o175 (P : Params) : Obj := dictO (entL 2191 kv34) 17
noncomputable def o176 (P : Params) : Obj := dictO (entL 2242 kv35) 17
noncomputable def o177 (P : Params) : Obj := dictO (entL 2293 kv36) 17
noncomputable def o178 (P : Params) : Obj := dictO (entL 2344 kv37) 17
noncomputable def o179 (P : Params) : Obj := dictO (entS 2395 kv38) 4
noncomputable def o180 (P : Params) : Obj := ⟨.type "tuple", none, .seq ⟨[]⟩ 0, ⟨[]⟩⟩
noncomputable def o181 (P : Params) : Obj := ⟨.none, none, .fields ⟨[]⟩, ⟨[]⟩⟩
noncomputable def o182 (P : Params) : Obj := ⟨.type "tuple", none, .seq ⟨[.str s262 2411, .str s353 2412]⟩ 0, ⟨[]⟩⟩
noncomputable def o183 (P : Params) : Obj := ⟨.type "tuple", none, .seq ⟨[]⟩ 0, ⟨[]⟩⟩
noncomputable def o184 (P : Params) : Obj := ⟨.none, none, .func (mkF (fnA 9) s444 s444 0 [] (.none) (.none) (.none) (.none) none (.none) (.none) 0), ⟨[]⟩⟩
noncomputable def o185 (P : Params) : Obj := ⟨.type "code", none, .fields ⟨[.str s444 2408, .str s444 2409, .str s176 2410, .int 43 0, .int 1 0, .int 0 0, .int 0 0, .int 3 0, .ref 180, .bool true, .int 276 0, .ref 181, .none, .ref 182, .ref 183, .ref 184, .int 2413 0, .int 43 0, .str s176 2414]⟩, ⟨[]⟩⟩
noncomputable def o186 (P : Params) : Obj := ⟨.type "function", none, .func (mkF (fnA 9) s444 s444 3 [] (.none) (.none) (.none) (.str s259 388) none (.ref 185) (.none) 0), ⟨[]⟩⟩
noncomputable def o187 (P : Params) : Obj := ⟨.type "list", none, .seq ⟨[.int 14 2421, .int 14 2422, .int 4 2423, .int 1 2424, .int 1 2425, .int 9 2426, .int 0 2427, .int 4227896069 2428, .int 939524097 2429, .int 0 2430, .int 0 2431, .int 0 2432, .int 0 2433, .int 0 2434, .int 0 2435, .int 13 2436, .int 11 2437, .int 9 2438, .int 0 2439, .int 4227896069 2440, .int 939524097 2441, .int 0 2442, .int 0 2443, .int 0 2444, .int 0 2445, .int 0 2446, .int 0 2447, .int 1 2448]⟩ 0, ⟨[]⟩⟩
noncomputable def o188 (P : Params) : Obj := ⟨.type "dict", none, .dict ⟨[]⟩ 0, ⟨[]⟩⟩
noncomputable def o189 (P : Params) : Obj := ⟨.type "tuple", none, .seq ⟨[.none]⟩ 0, ⟨[]⟩⟩
noncomputable def o190 (P : Params) : Obj := ⟨.type "tuple", none, .seq ⟨[.int 14 0, .int 14 0, .int 4 0, .int 1 0, .int 1 0, .int 9 0, .int 0 0, .int 4227896069 0, .int 939524097 0, .int 0 0, .int 0 0, .int 0 0, .int 0 0, .int 0 0, .int 0 0, .int 13 0, .int 11 0, .int 9 0, .int 0 0, .int 4227896069 0, .int 939524097 0, .int 0 0, .int 0 0, .int 0 0, .int 0 0, .int 0 0, .int 0 0, .int 1 0]⟩ 0, ⟨[]⟩⟩
noncomputable def o191 (P : Params) : Obj := ⟨.type "re.Pattern", none, .fields ⟨[.str s447 2419, .int 32 2450, .int 0 0, .none, .none, .ref 190, .int 0 0]⟩, ⟨[]⟩⟩
noncomputable def o192 (P : Params) : Obj := ⟨.type "list", none, .seq ⟨[.int 14 2455, .int 10 2456, .int 4 2457, .int 1 2458, .int 1 2459, .int 22 2460, .int 0 2461, .int 31 2462, .int 16 2463, .int 127 2464, .int 0 2465, .int 13 2466, .int 7 2467, .int 22 2468, .int 0 2469, .int 31 2470, .int 16 2471, .int 127 2472, .int 0 2473, .int 1 2474]⟩ 0, ⟨[]⟩⟩
noncomputable def o193 (P : Params) : Obj := ⟨.type "dict", none, .dict ⟨[]⟩ 0, ⟨[]⟩⟩
noncomputable def o194 (P : Params) : Obj := ⟨.type "tuple", none, .seq ⟨[.none]⟩ 0, ⟨[]⟩⟩
noncomputable def o195 (P : Params) : Obj := ⟨.type "tuple", none, .seq ⟨[.int 14 0, .int 10 0, .int 4 0, .int 1 0, .int 1 0, .int 22 0, .int 0 0, .int 31 0, .int 16 0, .int 127 0, .int 0 0, .int 13 0, .int 7 0, .int 22 0, .int 0 0, .int 31 0, .int 16 0, .int 127 0, .int 0 0, .int 1 0]⟩ 0, ⟨[]⟩⟩
noncomputable def o196 (P : Params) : Obj := ⟨.type "re.Pattern", none, .fields ⟨[.str s449 2453, .int 32 2476, .int 0 0, .none, .none, .ref 195, .int 0 0]⟩, ⟨[]⟩⟩
noncomputable def o197 (P : Params) : Obj := ⟨.type "list", none, .seq ⟨[.int 14 2481, .int 14 2482, .int 4 2483, .int 1 2484, .int 1 2485, .int 9 2486, .int 4294966783 2487, .int 0 2488, .int 0 2489, .int 2147483648 2490, .int 0 2491, .int 0 2492, .int 0 2493, .int 0 2494, .int 0 2495, .int 13 2496, .int 11 2497, .int 9 2498, .int 4294966783 2499, .int 0 2500, .int 0 2501, .int 2147483648 2502, .int 0 2503, .int 0 2504, .int 0 2505, .int 0 2506, .int 0 2507, .int 1 2508]⟩ 0, ⟨[]⟩⟩
noncomputable def o198 (P : Params) : Obj := ⟨.type "dict", none, .dict ⟨[]⟩ 0, ⟨[]⟩⟩
noncomputable def o199 (P : Params) : Obj := ⟨.type "tuple", none, .seq ⟨[.none]⟩ 0, ⟨[]⟩⟩
noncomputable def o200 (P : Params) : Obj := ⟨.type "tuple", none, .seq ⟨[.int 14 0, .int 14 0, .int 4 0, .int 1 0, .int 1 0, .int 9 0, .int 4294966783 0, .int 0 0, .int 0 0, .int 2147483648 0, .int 0 0, .int 0 0, .int 0 0, .int 0 0, .int 0 0, .int 13 0, .int 11 0, .int 9 0, .int 4294966783 0, .int 0 0, .int 0 0, .int 2147483648 0, .int 0 0, .int 0 0, .int 0 0, .int 0 0, .int 0 0, .int 1 0]⟩ 0, ⟨[]⟩⟩
noncomputable def o201 (P : Params) : Obj := ⟨.type "re.Pattern", none, .fields ⟨[.str s451 2479, .int 32 2510, .int 0 0, .none, .none, .ref 200, .int 0 0]⟩, ⟨[]⟩⟩
noncomputable def o3_16 (P : Params) : Obj := ⟨.type "dict", none, .dict ⟨[⟨(kh P s0), .str s0 165, .str s445 2416⟩, ⟨(kh P s2), .str s2 166, .none⟩, ⟨(kh P s3), .str s3 167, .none⟩, ⟨(kh P s4), .str s4 168, .builtin "__main__.__loader__#opaque"⟩, ⟨(kh P s5), .str s5 169, .none⟩, ⟨(kh P s173), .str s173 170, .ref 6⟩, ⟨(kh P s174), .str s174 171, .ref 4⟩, ⟨(kh P s175), .str s175 173, .str s176 172⟩, ⟨(kh P s177), .str s177 174, .none⟩, ⟨(kh P s161), .str s161 275, .ref 12⟩, ⟨(kh P s227), .str s227 288, .ref 38⟩, ⟨(kh P s230), .str s230 292, .str s179 291⟩, ⟨(kh P s231), .str s231 387, .ref 118⟩, ⟨(kh P s260), .str s260 449, .ref 130⟩, ⟨(kh P s261), .str s261 456, .ref 140⟩, ⟨(kh P s263), .str s263 2407, .ref 141⟩, ⟨(kh P s444), .str s444 2415, .ref 186⟩, ⟨(kh P s446), .str s446 2451, .ref 191⟩, ⟨(kh P s448), .str s448 2477, .ref 196⟩, ⟨(kh P s450), .str s450 2511, .ref 201⟩, ⟨(kh P s452), .str s452 2521, .ref 209⟩]⟩ 21, ⟨[]⟩⟩
noncomputable def o29_16 (P : Params) : Obj := ⟨.none, none, .fields ⟨[.int 2 0, .int 0 0, .ref 37, .int 7 0, .int 0 0, .ref 45, .int 40 0, .int 0 0, .ref 139, .int 43 0, .int 0 0, .ref 185, .int 52 0, .int 0 0, .ref 208]⟩, ⟨[]⟩⟩
noncomputable def o202 (P : Params) : Obj := ⟨.type "tuple", none, .seq ⟨[.none, .int 1 2512]⟩ 0, ⟨[]⟩⟩
noncomputable def o203 (P : Params) : Obj := ⟨.type "tuple", none, .seq ⟨[]⟩ 0, ⟨[]⟩⟩
noncomputable def o204 (P : Params) : Obj := ⟨.none, none, .fields ⟨[]⟩, ⟨[]⟩⟩
noncomputable def o205 (P : Params) : Obj := ⟨.type "tuple", none, .seq ⟨[.str s453 2516, .str s454 2517, .str s455 2518]⟩ 0, ⟨[]⟩⟩
noncomputable def o206 (P : Params) : Obj := ⟨.type "tuple", none, .seq ⟨[]⟩ 0, ⟨[]⟩⟩
noncomputable def o207 (P : Params) : Obj := ⟨.none, none, .func (mkF (fnA 14) s452 s452 0 [] (.none) (.none) (.none) (.none) none (.none) (.none) 0), ⟨[]⟩⟩
noncomputable def o208 (P : Params) : Obj := ⟨.type "code", none, .fields ⟨[.str s452 2513, .str s452 2514, .str s176 2515, .int 52 0, .int 3 0, .int 0 0, .int 0 0, .int 3 0, .ref 203, .bool true, .int 276 0, .ref 204, .none, .ref 205, .ref 206, .ref 207, .int 2519 0, .int 52 0, .str s176 2520]⟩, ⟨[]⟩⟩
noncomputable def o209 (P : Params) : Obj := ⟨.type "function", none, .func (mkF (fnA 14) s452 s452 3 [] (.ref 202) (.none) (.none) (.str s445 2416) none (.ref 208) (.none) 0), ⟨[]⟩⟩
noncomputable def o3_17 (P : Params) : Obj := ⟨.type "dict", none, .dict ⟨[⟨(kh P s0), .str s0 165, .str s445 2416⟩, ⟨(kh P s2), .str s2 166, .none⟩, ⟨(kh P s3), .str s3 167, .none⟩, ⟨(kh P s4), .str s4 168, .builtin "__main__.__loader__#opaque"⟩, ⟨(kh P s5), .str s5 169, .none⟩, ⟨(kh P s173), .str s173 170, .ref 6⟩, ⟨(kh P s174), .str s174 171, .ref 4⟩, ⟨(kh P s175), .str s175 173, .str s176 172⟩, ⟨(kh P s177), .str s177 174, .none⟩, ⟨(kh P s161), .str s161 275, .ref 12⟩, ⟨(kh P s227), .str s227 288, .ref 38⟩, ⟨(kh P s230), .str s230 292, .str s179 291⟩, ⟨(kh P s231), .str s231 387, .ref 118⟩, ⟨(kh P s260), .str s260 449, .ref 130⟩, ⟨(kh P s261), .str s261 456, .ref 140⟩, ⟨(kh P s263), .str s263 2407, .ref 141⟩, ⟨(kh P s444), .str s444 2415, .ref 186⟩, ⟨(kh P s446), .str s446 2451, .ref 191⟩, ⟨(kh P s448), .str s448 2477, .ref 196⟩, ⟨(kh P s450), .str s450 2511, .ref 201⟩, ⟨(kh P s452), .str s452 2521, .ref 209⟩, ⟨(kh P s456), .str s456 2680, .ref 332⟩]⟩ 22, ⟨[]⟩⟩
noncomputable def o29_17 (P : Params) : Obj := ⟨.none, none, .fields ⟨[.int 2 0, .int 0 0, .ref 37, .int 7 0, .int 0 0, .ref 45, .int 40 0, .int 0 0, .ref 139, .int 43 0, .int 0 0, .ref 185, .int 52 0, .int 0 0, .ref 208, .int 61 0, .int 0 0, .ref 215]⟩, ⟨[]⟩⟩
noncomputable def o210 (P : Params) : Obj := ⟨.type "tuple", none, .seq ⟨[]⟩ 0, ⟨[]⟩⟩
noncomputable def o211 (P : Params) : Obj := ⟨.type "builtin_function_or_method", none, .fields ⟨[.builtin "type.__prepare__", .type "type"]⟩, ⟨[]⟩⟩
noncomputable def o212 (P : Params) : Obj := ⟨.type "dict", none, .dict ⟨[⟨(kh P s191), .str s191 2529, .str s445 2416⟩, ⟨(kh P s232), .str s232 2531, .str s456 2530⟩, ⟨(kh P s193), .str s193 2533, .int 61 2532⟩, ⟨(kh P s218), .str s218 2543, .ref 224⟩, ⟨(kh P s457), .str s457 2553, .ref 231⟩, ⟨(kh P s236), .str s236 2560, .ref 238⟩, ⟨(kh P s458), .str s458 2569, .ref 245⟩, ⟨(kh P s459), .str s459 2575, .ref 250⟩, ⟨(kh P s460), .str s460 2583, .ref 257⟩, ⟨(kh P s461), .str s461 2591, .ref 264⟩, ⟨(kh P s462), .str s462 2599, .ref 271⟩, ⟨(kh P s463), .str s463 2610, .ref 279⟩, ⟨(kh P s464), .str s464 2616, .ref 284⟩, ⟨(kh P s465), .str s465 2622, .ref 289⟩, ⟨(kh P s466), .str s466 2629, .ref 296⟩, ⟨(kh P s219), .str s219 2636, .ref 303⟩, ⟨(kh P s237), .str s237 2642, .ref 308⟩, ⟨(kh P s467), .str s467 2649, .ref 315⟩, ⟨(kh P s468), .str s468 2658, .ref 322⟩, ⟨(kh P s469), .str s469 2671, .ref 329⟩, ⟨(kh P s203), .str s203 2673, .ref 330⟩]⟩ 21, ⟨[]⟩⟩
noncomputable def o213 (P : Params) : Obj := ⟨.type "tuple", none, .seq ⟨[]⟩ 0, ⟨[]⟩⟩
noncomputable def o214 (P : Params) : Obj := ⟨.none, none, .fields ⟨[.int 63 0, .int 4 0, .ref 223, .int 73 0, .int 4 0, .ref 230, .int 81 0, .int 4 0, .ref 237, .int 84 0, .int 4 0, .ref 244, .int 88 0, .int 4 0, .ref 249, .int 92 0, .int 4 0, .ref 256, .int 95 0, .int 4 0, .ref 263, .int 98 0, .int 4 0, .ref 270, .int 101 0, .int 4 0, .ref 278, .int 108 0, .int 4 0, .ref 283, .int 111 0, .int 4 0, .ref 288, .int 114 0, .int 4 0, .ref 295, .int 117 0, .int 4 0, .ref 302, .int 120 0, .int 4 0, .ref 307, .int 123 0, .int 4 0, .ref 314, .int 126 0, .int 4 0, .ref 321, .int 129 0, .int 4 0, .ref 328]⟩, ⟨[]⟩⟩
noncomputable def o215 (P : Params) : Obj := ⟨.type "code", none, .fields ⟨[.str s456 2524, .str s456 2525, .str s176 2526, .int 61 0, .int 0 0, .int 0 0, .int 0 0, .int 0 0, .ref 213, .bool false, .int 276 0, .ref 214, .none, .none, .none, .none, .int 2527 0, .int 61 0, .str s176 2528]⟩, ⟨[]⟩⟩
noncomputable def o216 (P : Params) : Obj := ⟨.type "frame", none, .plain, ⟨[(some (.ref 215)), (some (.ref 3)), (some (.ref 212)), none, (some (.str s445 2416)), none, (some (.ref 0))]⟩⟩
noncomputable def o217 (P : Params) : Obj := ⟨.type "tuple", none, .seq ⟨[.none]⟩ 0, ⟨[]⟩⟩
noncomputable def o218 (P : Params) : Obj := ⟨.type "tuple", none, .seq ⟨[]⟩ 0, ⟨[]⟩⟩
noncomputable def o219 (P : Params) : Obj := ⟨.none, none, .fields ⟨[]⟩, ⟨[]⟩⟩
noncomputable def o220 (P : Params) : Obj := ⟨.type "tuple", none, .seq ⟨[.str s243 2537, .str s470 2538, .str s228 2539, .str s428 2540]⟩ 0, ⟨[]⟩⟩
noncomputable def o221 (P : Params) : Obj := ⟨.type "tuple", none, .seq ⟨[]⟩ 0, ⟨[]⟩⟩
noncomputable def o222 (P : Params) : Obj := ⟨.none, none, .func (mkF (fnB 15 0) s218 s471 0 [] (.none) (.none) (.none) (.none) none (.none) (.none) 0), ⟨[]⟩⟩
noncomputable def o223 (P : Params) : Obj := ⟨.type "code", none, .fields ⟨[.str s218 2534, .str s471 2535, .str s176 2536, .int 63 0, .int 2 0, .int 0 0, .int 0 0, .int 3 0, .ref 218, .bool true, .int 276 0, .ref 219, .none, .ref 220, .ref 221, .ref 222, .int 2541 0, .int 63 0, .str s176 2542]⟩, ⟨[]⟩⟩
noncomputable def o224 (P : Params) : Obj := ⟨.type "function", none, .func (mkF (fnB 15 0) s218 s471 3 [] (.ref 217) (.none) (.none) (.str s445 2416) none (.ref 223) (.none) 0), ⟨[]⟩⟩
noncomputable def o225 (P : Params) : Obj := ⟨.type "tuple", none, .seq ⟨[]⟩ 0, ⟨[]⟩⟩
noncomputable def o226 (P : Params) : Obj := ⟨.none, none, .fields ⟨[]⟩, ⟨[]⟩⟩
noncomputable def o227 (P : Params) : Obj := ⟨.type "tuple", none, .seq ⟨[.str s243 2547, .str s454 2548, .str s209 2549, .str s472 2550]⟩ 0, ⟨[]⟩⟩
noncomputable def o228 (P : Params) : Obj := ⟨.type "tuple", none, .seq ⟨[]⟩ 0, ⟨[]⟩⟩
noncomputable def o229 (P : Params) : Obj := ⟨.none, none, .func (mkF (fnB 15 1) s457 s473 0 [] (.none) (.none) (.none) (.none) none (.none) (.none) 0), ⟨[]⟩⟩
noncomputable def o230 (P : Params) : Obj := ⟨.type "code", none, .fields ⟨[.str s457 2544, .str s473 2545, .str s176 2546, .int 73 0, .int 2 0, .int 0 0, .int 1 0, .int 3 0, .ref 225, .bool true, .int 276 0, .ref 226, .none, .ref 227, .ref 228, .ref 229, .int 2551 0, .int 73 0, .str s176 2552]⟩, ⟨[]⟩⟩
noncomputable def o231 (P : Params) : Obj := ⟨.type "function", none, .func (mkF (fnB 15 1) s457 s473 3 [] (.none) (.none) (.none) (.str s445 2416) none (.ref 230) (.none) 0), ⟨[]⟩⟩
noncomputable def o232 (P : Params) : Obj := ⟨.type "tuple", none, .seq ⟨[]⟩ 0, ⟨[]⟩⟩
noncomputable def o233 (P : Params) : Obj := ⟨.none, none, .fields ⟨[]⟩, ⟨[]⟩⟩
noncomputable def o234 (P : Params) : Obj := ⟨.type "tuple", none, .seq ⟨[.str s243 2557]⟩ 0, ⟨[]⟩⟩
noncomputable def o235 (P : Params) : Obj := ⟨.type "tuple", none, .seq ⟨[]⟩ 0, ⟨[]⟩⟩
noncomputable def o236 (P : Params) : Obj := ⟨.none, none, .func (mkF (fnB 15 2) s236 s474 0 [] (.none) (.none) (.none) (.none) none (.none) (.none) 0), ⟨[]⟩⟩
noncomputable def o237 (P : Params) : Obj := ⟨.type "code", none, .fields ⟨[.str s236 2554, .str s474 2555, .str s176 2556, .int 81 0, .int 1 0, .int 0 0, .int 0 0, .int 3 0, .ref 232, .bool true, .int 276 0, .ref 233, .none, .ref 234, .ref 235, .ref 236, .int 2558 0, .int 81 0, .str s176 2559]⟩, ⟨[]⟩⟩
noncomputable def o238 (P : Params) : Obj := ⟨.type "function", none, .func (mkF (fnB 15 2) s236 s474 3 [] (.none) (.none) (.none) (.str s445 2416) none (.ref 237) (.none) 0), ⟨[]⟩⟩
noncomputable def o239 (P : Params) : Obj := ⟨.type "tuple", none, .seq ⟨[]⟩ 0, ⟨[]⟩⟩
noncomputable def o240 (P : Params) : Obj := ⟨.none, none, .fields ⟨[]⟩, ⟨[]⟩⟩
noncomputable def o241 (P : Params) : Obj := ⟨.type "tuple", none, .seq ⟨[.str s243 2564, .str s209 2565, .str s475 2566]⟩ 0, ⟨[]⟩⟩
noncomputable def o242 (P : Params) : Obj := ⟨.type "tuple", none, .seq ⟨[]⟩ 0, ⟨[]⟩⟩
noncomputable def o243 (P : Params) : Obj := ⟨.none, none, .func (mkF (fnB 15 3) s458 s476 0 [] (.none) (.none) (.none) (.none) none (.none) (.none) 0), ⟨[]⟩⟩
noncomputable def o244 (P : Params) : Obj := ⟨.type "code", none, .fields ⟨[.str s458 2561, .str s476 2562, .str s176 2563, .int 84 0, .int 3 0, .int 0 0, .int 0 0, .int 3 0, .ref 239, .bool true, .int 276 0, .ref 240, .none, .ref 241, .ref 242, .ref 243, .int 2567 0, .int 84 0, .str s176 2568]⟩, ⟨[]⟩⟩
noncomputable def o245 (P : Params) : Obj := ⟨.type "function", none, .func (mkF (fnB 15 3) s458 s476 3 [] (.none) (.none) (.none) (.str s445 2416) none (.ref 244) (.none) 0), ⟨[]⟩⟩
noncomputable def o246 (P : Params) : Obj := ⟨.type "tuple", none, .seq ⟨[]⟩ 0, ⟨[]⟩⟩
noncomputable def o247 (P : Params) : Obj := ⟨.none, none, .fields ⟨[]⟩, ⟨[]⟩⟩
noncomputable def o248 (P : Params) : Obj := ⟨.none, none, .func (mkF (fnB 15 4) s459 s477 0 [] (.none) (.none) (.none) (.none) none (.none) (.none) 0), ⟨[]⟩⟩
noncomputable def o249 (P : Params) : Obj := ⟨.type "code", none, .fields ⟨[.str s459 2570, .str s477 2571, .str s176 2572, .int 88 0, .int 2 0, .int 0 0, .int 0 0, .int 3 0, .ref 246, .bool true, .int 276 0, .ref 247, .none, .none, .none, .ref 248, .int 2573 0, .int 88 0, .str s176 2574]⟩, ⟨[]⟩⟩
noncomputable def o250 (P : Params) : Obj := ⟨.type "function", none, .func (mkF (fnB 15 4) s459 s477 3 [] (.none) (.none) (.none) (.str s445 2416) none (.ref 249) (.none) 0), ⟨[]⟩⟩
noncomputable def o251 (P : Params) : Obj := ⟨.type "tuple", none, .seq ⟨[]⟩ 0, ⟨[]⟩⟩
noncomputable def o252 (P : Params) : Obj := ⟨.none, none, .fields ⟨[]⟩, ⟨[]⟩⟩
noncomputable def o253 (P : Params) : Obj := ⟨.type "tuple", none, .seq ⟨[.str s243 2579, .str s209 2580]⟩ 0, ⟨[]⟩⟩
noncomputable def o254 (P : Params) : Obj := ⟨.type "tuple", none, .seq ⟨[]⟩ 0, ⟨[]⟩⟩
noncomputable def o255 (P : Params) : Obj := ⟨.none, none, .func (mkF (fnB 15 5) s460 s478 0 [] (.none) (.none) (.none) (.none) none (.none) (.none) 0), ⟨[]⟩⟩
noncomputable def o256 (P : Params) : Obj := ⟨.type "code", none, .fields ⟨[.str s460 2576, .str s478 2577, .str s176 2578, .int 92 0, .int 2 0, .int 0 0, .int 0 0, .int 3 0, .ref 251, .bool true, .int 276 0, .ref 252, .none, .ref 253, .ref 254, .ref 255, .int 2581 0, .int 92 0, .str s176 2582]⟩, ⟨[]⟩⟩
noncomputable def o257 (P : Params) : Obj := ⟨.type "function", none, .func (mkF (fnB 15 5) s460 s478 3 [] (.none) (.none) (.none) (.str s445 2416) none (.ref 256) (.none) 0), ⟨[]⟩⟩
noncomputable def o258 (P : Params) : Obj := ⟨.type "tuple", none, .seq ⟨[]⟩ 0, ⟨[]⟩⟩
noncomputable def o259 (P : Params) : Obj := ⟨.none, none, .fields ⟨[]⟩, ⟨[]⟩⟩
noncomputable def o260 (P : Params) : Obj := ⟨.type "tuple", none, .seq ⟨[.str s243 2587, .str s209 2588]⟩ 0, ⟨[]⟩⟩
noncomputable def o261 (P : Params) : Obj := ⟨.type "tuple", none, .seq ⟨[]⟩ 0, ⟨[]⟩⟩
noncomputable def o262 (P : Params) : Obj := ⟨.none, none, .func (mkF (fnB 15 6) s461 s479 0 [] (.none) (.none) (.none) (.none) none (.none) (.none) 0), ⟨[]⟩⟩
noncomputable def o263 (P : Params) : Obj := ⟨.type "code", none, .fields ⟨[.str s461 2584, .str s479 2585, .str s176 2586, .int 95 0, .int 2 0, .int 0 0, .int 0 0, .int 3 0, .ref 258, .bool true, .int 276 0, .ref 259, .none, .ref 260, .ref 261, .ref 262, .int 2589 0, .int 95 0, .str s176 2590]⟩, ⟨[]⟩⟩
noncomputable def o264 (P : Params) : Obj := ⟨.type "function", none, .func (mkF (fnB 15 6) s461 s479 3 [] (.none) (.none) (.none) (.str s445 2416) none (.ref 263) (.none) 0), ⟨[]⟩⟩
noncomputable def o265 (P : Params) : Obj := ⟨.type "tuple", none, .seq ⟨[]⟩ 0, ⟨[]⟩⟩
noncomputable def o266 (P : Params) : Obj := ⟨.none, none, .fields ⟨[]⟩, ⟨[]⟩⟩
noncomputable def o267 (P : Params) : Obj := ⟨.type "tuple", none, .seq ⟨[.str s243 2595, .str s209 2596]⟩ 0, ⟨[]⟩⟩
noncomputable def o268 (P : Params) : Obj := ⟨.type "tuple", none, .seq ⟨[]⟩ 0, ⟨[]⟩⟩
noncomputable def o269 (P : Params) : Obj := ⟨.none, none, .func (mkF (fnB 15 7) s462 s480 0 [] (.none) (.none) (.none) (.none) none (.none) (.none) 0), ⟨[]⟩⟩
noncomputable def o270 (P : Params) : Obj := ⟨.type "code", none, .fields ⟨[.str s462 2592, .str s480 2593, .str s176 2594, .int 98 0, .int 2 0, .int 0 0, .int 0 0, .int 3 0, .ref 265, .bool true, .int 276 0, .ref 266, .none, .ref 267, .ref 268, .ref 269, .int 2597 0, .int 98 0, .str s176 2598]⟩, ⟨[]⟩⟩
noncomputable def o271 (P : Params) : Obj := ⟨.type "function", none, .func (mkF (fnB 15 7) s462 s480 3 [] (.none) (.none) (.none) (.str s445 2416) none (.ref 270) (.none) 0), ⟨[]⟩⟩
noncomputable def o272 (P : Params) : Obj := ⟨.type "tuple", none, .seq ⟨[.none]⟩ 0, ⟨[]⟩⟩
noncomputable def o273 (P : Params) : Obj := ⟨.type "tuple", none, .seq ⟨[]⟩ 0, ⟨[]⟩⟩
noncomputable def o274 (P : Params) : Obj := ⟨.none, none, .fields ⟨[]⟩, ⟨[]⟩⟩
noncomputable def o275 (P : Params) : Obj := ⟨.type "tuple", none, .seq ⟨[.str s243 2603, .str s209 2604, .str s481 2605, .str s228 2606, .str s428 2607]⟩ 0, ⟨[]⟩⟩
noncomputable def o276 (P : Params) : Obj := ⟨.type "tuple", none, .seq ⟨[]⟩ 0, ⟨[]⟩⟩
noncomputable def o277 (P : Params) : Obj := ⟨.none, none, .func (mkF (fnB 15 8) s463 s482 0 [] (.none) (.none) (.none) (.none) none (.none) (.none) 0), ⟨[]⟩⟩
noncomputable def o278 (P : Params) : Obj := ⟨.type "code", none, .fields ⟨[.str s463 2600, .str s482 2601, .str s176 2602, .int 101 0, .int 3 0, .int 0 0, .int 0 0, .int 3 0, .ref 273, .bool true, .int 276 0, .ref 274, .none, .ref 275, .ref 276, .ref 277, .int 2608 0, .int 101 0, .str s176 2609]⟩, ⟨[]⟩⟩
noncomputable def o279 (P : Params) : Obj := ⟨.type "function", none, .func (mkF (fnB 15 8) s463 s482 3 [] (.ref 272) (.none) (.none) (.str s445 2416) none (.ref 278) (.none) 0), ⟨[]⟩⟩
noncomputable def o280 (P : Params) : Obj := ⟨.type "tuple", none, .seq ⟨[]⟩ 0, ⟨[]⟩⟩
noncomputable def o281 (P : Params) : Obj := ⟨.none, none, .fields ⟨[]⟩, ⟨[]⟩⟩
noncomputable def o282 (P : Params) : Obj := ⟨.none, none, .func (mkF (fnB 15 9) s464 s483 0 [] (.none) (.none) (.none) (.none) none (.none) (.none) 0), ⟨[]⟩⟩
noncomputable def o283 (P : Params) : Obj := ⟨.type "code", none, .fields ⟨[.str s464 2611, .str s483 2612, .str s176 2613, .int 108 0, .int 1 0, .int 0 0, .int 0 0, .int 3 0, .ref 280, .bool true, .int 276 0, .ref 281, .none, .none, .none, .ref 282, .int 2614 0, .int 108 0, .str s176 2615]⟩, ⟨[]⟩⟩
noncomputable def o284 (P : Params) : Obj := ⟨.type "function", none, .func (mkF (fnB 15 9) s464 s483 3 [] (.none) (.none) (.none) (.str s445 2416) none (.ref 283) (.none) 0), ⟨[]⟩⟩
noncomputable def o285 (P : Params) : Obj := ⟨.type "tuple", none, .seq ⟨[]⟩ 0, ⟨[]⟩⟩
noncomputable def o286 (P : Params) : Obj := ⟨.none, none, .fields ⟨[]⟩, ⟨[]⟩⟩
noncomputable def o287 (P : Params) : Obj := ⟨.none, none, .func (mkF (fnB 15 10) s465 s484 0 [] (.none) (.none) (.none) (.none) none (.none) (.none) 0), ⟨[]⟩⟩
noncomputable def o288 (P : Params) : Obj := ⟨.type "code", none, .fields ⟨[.str s465 2617, .str s484 2618, .str s176 2619, .int 111 0, .int 1 0, .int 0 0, .int 0 0, .int 3 0, .ref 285, .bool true, .int 276 0, .ref 286, .none, .none, .none, .ref 287, .int 2620 0, .int 111 0, .str s176 2621]⟩, ⟨[]⟩⟩
noncomputable def o289 (P : Params) : Obj := ⟨.type "function", none, .func (mkF (fnB 15 10) s465 s484 3 [] (.none) (.none) (.none) (.str s445 2416) none (.ref 288) (.none) 0), ⟨[]⟩⟩
noncomputable def o290 (P : Params) : Obj := ⟨.type "tuple", none, .seq ⟨[]⟩ 0, ⟨[]⟩⟩
noncomputable def o291 (P : Params) : Obj := ⟨.none, none, .fields ⟨[]⟩, ⟨[]⟩⟩
noncomputable def o292 (P : Params) : Obj := ⟨.type "tuple", none, .seq ⟨[.str s243 2626]⟩ 0, ⟨[]⟩⟩
noncomputable def o293 (P : Params) : Obj := ⟨.type "tuple", none, .seq ⟨[]⟩ 0, ⟨[]⟩⟩
noncomputable def o294 (P : Params) : Obj := ⟨.none, none, .func (mkF (fnB 15 11) s466 s485 0 [] (.none) (.none) (.none) (.none) none (.none) (.none) 0), ⟨[]⟩⟩
noncomputable def o295 (P : Params) : Obj := ⟨.type "code", none, .fields ⟨[.str s466 2623, .str s485 2624, .str s176 2625, .int 114 0, .int 1 0, .int 0 0, .int 0 0, .int 3 0, .ref 290, .bool true, .int 276 0, .ref 291, .none, .ref 292, .ref 293, .ref 294, .int 2627 0, .int 114 0, .str s176 2628]⟩, ⟨[]⟩⟩
noncomputable def o296 (P : Params) : Obj := ⟨.type "function", none, .func (mkF (fnB 15 11) s466 s485 3 [] (.none) (.none) (.none) (.str s445 2416) none (.ref 295) (.none) 0), ⟨[]⟩⟩
noncomputable def o297 (P : Params) : Obj := ⟨.type "tuple", none, .seq ⟨[]⟩ 0, ⟨[]⟩⟩
noncomputable def o298 (P : Params) : Obj := ⟨.none, none, .fields ⟨[]⟩, ⟨[]⟩⟩
noncomputable def o299 (P : Params) : Obj := ⟨.type "tuple", none, .seq ⟨[.str s243 2633]⟩ 0, ⟨[]⟩⟩
noncomputable def o300 (P : Params) : Obj := ⟨.type "tuple", none, .seq ⟨[]⟩ 0, ⟨[]⟩⟩
noncomputable def o301 (P : Params) : Obj := ⟨.none, none, .func (mkF (fnB 15 12) s219 s486 0 [] (.none) (.none) (.none) (.none) none (.none) (.none) 0), ⟨[]⟩⟩
noncomputable def o302 (P : Params) : Obj := ⟨.type "code", none, .fields ⟨[.str s219 2630, .str s486 2631, .str s176 2632, .int 117 0, .int 1 0, .int 0 0, .int 0 0, .int 3 0, .ref 297, .bool true, .int 276 0, .ref 298, .none, .ref 299, .ref 300, .ref 301, .int 2634 0, .int 117 0, .str s176 2635]⟩, ⟨[]⟩⟩
noncomputable def o303 (P : Params) : Obj := ⟨.type "function", none, .func (mkF (fnB 15 12) s219 s486 3 [] (.none) (.none) (.none) (.str s445 2416) none (.ref 302) (.none) 0), ⟨[]⟩⟩
noncomputable def o304 (P : Params) : Obj := ⟨.type "tuple", none, .seq ⟨[]⟩ 0, ⟨[]⟩⟩
noncomputable def o305 (P : Params) : Obj := ⟨.none, none, .fields ⟨[]⟩, ⟨[]⟩⟩
noncomputable def o306 (P : Params) : Obj := ⟨.none, none, .func (mkF (fnB 15 13) s237 s487 0 [] (.none) (.none) (.none) (.none) none (.none) (.none) 0), ⟨[]⟩⟩
noncomputable def o307 (P : Params) : Obj := ⟨.type "code", none, .fields ⟨[.str s237 2637, .str s487 2638, .str s176 2639, .int 120 0, .int 1 0, .int 0 0, .int 0 0, .int 3 0, .ref 304, .bool true, .int 276 0, .ref 305, .none, .none, .none, .ref 306, .int 2640 0, .int 120 0, .str s176 2641]⟩, ⟨[]⟩⟩
noncomputable def o308 (P : Params) : Obj := ⟨.type "function", none, .func (mkF (fnB 15 13) s237 s487 3 [] (.none) (.none) (.none) (.str s445 2416) none (.ref 307) (.none) 0), ⟨[]⟩⟩
noncomputable def o309 (P : Params) : Obj := ⟨.type "tuple", none, .seq ⟨[]⟩ 0, ⟨[]⟩⟩
noncomputable def o310 (P : Params) : Obj := ⟨.none, none, .fields ⟨[]⟩, ⟨[]⟩⟩
noncomputable def o311 (P : Params) : Obj := ⟨.type "tuple", none, .seq ⟨[.str s243 2646]⟩ 0, ⟨[]⟩⟩
noncomputable def o312 (P : Params) : Obj := ⟨.type "tuple", none, .seq ⟨[]⟩ 0, ⟨[]⟩⟩
noncomputable def o313 (P : Params) : Obj := ⟨.none, none, .func (mkF (fnB 15 14) s467 s488 0 [] (.none) (.none) (.none) (.none) none (.none) (.none) 0), ⟨[]⟩⟩
noncomputable def o314 (P : Params) : Obj := ⟨.type "code", none, .fields ⟨[.str s467 2643, .str s488 2644, .str s176 2645, .int 123 0, .int 1 0, .int 0 0, .int 0 0, .int 3 0, .ref 309, .bool true, .int 276 0, .ref 310, .none, .ref 311, .ref 312, .ref 313, .int 2647 0, .int 123 0, .str s176 2648]⟩, ⟨[]⟩⟩
noncomputable def o315 (P : Params) : Obj := ⟨.type "function", none, .func (mkF (fnB 15 14) s467 s488 3 [] (.none) (.none) (.none) (.str s445 2416) none (.ref 314) (.none) 0), ⟨[]⟩⟩
noncomputable def o316 (P : Params) : Obj := ⟨.type "tuple", none, .seq ⟨[]⟩ 0, ⟨[]⟩⟩
noncomputable def o317 (P : Params) : Obj := ⟨.none, none, .fields ⟨[]⟩, ⟨[]⟩⟩
noncomputable def o318 (P : Params) : Obj := ⟨.type "tuple", none, .seq ⟨[.str s243 2653, .str s209 2654, .str s454 2655]⟩ 0, ⟨[]⟩⟩
noncomputable def o319 (P : Params) : Obj := ⟨.type "tuple", none, .seq ⟨[]⟩ 0, ⟨[]⟩⟩
noncomputable def o320 (P : Params) : Obj := ⟨.none, none, .func (mkF (fnB 15 15) s468 s489 0 [] (.none) (.none) (.none) (.none) none (.none) (.none) 0), ⟨[]⟩⟩
noncomputable def o321 (P : Params) : Obj := ⟨.type "code", none, .fields ⟨[.str s468 2650, .str s489 2651, .str s176 2652, .int 126 0, .int 3 0, .int 0 0, .int 0 0, .int 3 0, .ref 316, .bool true, .int 276 0, .ref 317, .none, .ref 318, .ref 319, .ref 320, .int 2656 0, .int 126 0, .str s176 2657]⟩, ⟨[]⟩⟩
noncomputable def o322 (P : Params) : Obj := ⟨.type "function", none, .func (mkF (fnB 15 15) s468 s489 3 [] (.none) (.none) (.none) (.str s445 2416) none (.ref 321) (.none) 0), ⟨[]⟩⟩
noncomputable def o323 (P : Params) : Obj := ⟨.type "tuple", none, .seq ⟨[]⟩ 0, ⟨[]⟩⟩
noncomputable def o324 (P : Params) : Obj := ⟨.none, none, .fields ⟨[]⟩, ⟨[]⟩⟩
noncomputable def o325 (P : Params) : Obj := ⟨.type "tuple", none, .seq ⟨[.str s243 2662, .str s490 2663, .str s491 2664, .str s492 2665, .str s493 2666, .str s228 2667, .str s428 2668]⟩ 0, ⟨[]⟩⟩
noncomputable def o326 (P : Params) : Obj := ⟨.type "tuple", none, .seq ⟨[]⟩ 0, ⟨[]⟩⟩
noncomputable def o327 (P : Params) : Obj := ⟨.none, none, .func (mkF (fnB 15 16) s469 s494 0 [] (.none) (.none) (.none) (.none) none (.none) (.none) 0), ⟨[]⟩⟩
noncomputable def o328 (P : Params) : Obj := ⟨.type "code", none, .fields ⟨[.str s469 2659, .str s494 2660, .str s176 2661, .int 129 0, .int 3 0, .int 0 0, .int 0 0, .int 11 0, .ref 323, .bool true, .int 276 0, .ref 324, .none, .ref 325, .ref 326, .ref 327, .int 2669 0, .int 129 0, .str s176 2670]⟩, ⟨[]⟩⟩
noncomputable def o329 (P : Params) : Obj := ⟨.type "function", none, .func (mkF (fnB 15 16) s469 s494 3 [] (.none) (.none) (.none) (.str s445 2416) none (.ref 328) (.none) 0), ⟨[]⟩⟩
noncomputable def o330 (P : Params) : Obj := ⟨.type "tuple", none, .seq ⟨[.str s495 2672]⟩ 0, ⟨[]⟩⟩
noncomputable def o331 (P : Params) : Obj := ⟨.type "dict", none, .dict ⟨[⟨(kh P s191), .str s191 2529, .str s445 2416⟩, ⟨(kh P s193), .str s193 2533, .int 61 2532⟩, ⟨(kh P s218), .str s218 2543, .ref 224⟩, ⟨(kh P s457), .str s457 2553, .ref 231⟩, ⟨(kh P s236), .str s236 2560, .ref 238⟩, ⟨(kh P s458), .str s458 2569, .ref 245⟩, ⟨(kh P s459), .str s459 2575, .ref 250⟩, ⟨(kh P s460), .str s460 2583, .ref 257⟩, ⟨(kh P s461), .str s461 2591, .ref 264⟩, ⟨(kh P s462), .str s462 2599, .ref 271⟩, ⟨(kh P s463), .str s463 2610, .ref 279⟩, ⟨(kh P s464), .str s464 2616, .ref 284⟩, ⟨(kh P s465), .str s465 2622, .ref 289⟩, ⟨(kh P s466), .str s466 2629, .ref 296⟩, ⟨(kh P s219), .str s219 2636, .ref 303⟩, ⟨(kh P s237), .str s237 2642, .ref 308⟩, ⟨(kh P s467), .str s467 2649, .ref 315⟩, ⟨(kh P s468), .str s468 2658, .ref 322⟩, ⟨(kh P s469), .str s469 2671, .ref 329⟩, ⟨(kh P s203), .str s203 2673, .ref 330⟩, ⟨(kh P s204), .str s204 2675, .ref 333⟩, ⟨(kh P s205), .str s205 2677, .ref 334⟩, ⟨(kh P s2), .str s2 2678, .none⟩]⟩ 4, ⟨[]⟩⟩
noncomputable def o332 (P : Params) : Obj := ⟨.type "type", none, .cls { name := s456, bases := [.type "object"], mro := [.ref 332, .type "object"], ns := 331, qualname := s456, hasDict := true, slotNames := [], subclasses := [], abstract := false, collection := none, hasDel := false }, ⟨[none, none, (some (.str s456 2522)), (some (.str s456 2530)), (some (.builtin "object.__new__")), (some (.bool true))]⟩⟩
noncomputable def o333 (P : Params) : Obj := ⟨.type "getset_descriptor", none, .fields ⟨[.str s204 2674, .ref 332, .builtin "function.__dict__", .builtin "function.__dict__#set"]⟩, ⟨[]⟩⟩
noncomputable def o334 (P : Params) : Obj := ⟨.type "getset_descriptor", none, .fields ⟨[.str s205 2676, .ref 332, .builtin "ExceptionGroup.__weakref__", .none]⟩, ⟨[]⟩⟩
noncomputable def o335 (P : Params) : Obj := ⟨.type "super", none, .fields ⟨[.ref 332, .ref 332, .ref 332]⟩, ⟨[]⟩⟩
noncomputable def o336 (P : Params) : Obj := ⟨.type "builtin_function_or_method", none, .fields ⟨[.builtin "object.__init_subclass__", .ref 332]⟩, ⟨[]⟩⟩
noncomputable def o337 (P : Params) : Obj := ⟨.type "tuple", none, .seq ⟨[]⟩ 0, ⟨[]⟩⟩
noncomputable def o338 (P : Params) : Obj := ⟨.none, none, .fields ⟨[]⟩, ⟨[]⟩⟩
noncomputable def o339 (P : Params) : Obj := ⟨.none, none, .func (mkF (fnA 17) s497 s497 0 [] (.none) (.none) (.none) (.none) none (.none) (.none) 0), ⟨[]⟩⟩
noncomputable def o340 (P : Params) : Obj := ⟨.type "code", none, .fields ⟨[.str s497 2683, .str s497 2684, .str s176 2685, .int 143 0, .int 2 0, .int 0 0, .int 0 0, .int 3 0, .ref 337, .bool true, .int 276 0, .ref 338, .none, .none, .none, .ref 339, .int 2686 0, .int 143 0, .str s176 2687]⟩, ⟨[]⟩⟩
noncomputable def o341 (P : Params) : Obj := ⟨.type "function", none, .func (mkF (fnA 17) s497 s497 3 [] (.none) (.none) (.none) (.str s496 2681) none (.ref 340) (.none) 0), ⟨[]⟩⟩
noncomputable def o342 (P : Params) : Obj := ⟨.type "tuple", none, .seq ⟨[]⟩ 0, ⟨[]⟩⟩
noncomputable def o343 (P : Params) : Obj := ⟨.none, none, .fields ⟨[]⟩, ⟨[]⟩⟩
noncomputable def o344 (P : Params) : Obj := ⟨.type "tuple", none, .seq ⟨[.str s499 2692, .str s500 2693, .str s501 2694, .str s502 2695, .str s503 2696, .str s209 2697, .str s504 2698, .str s505 2699, .str s506 2700]⟩ 0, ⟨[]⟩⟩
noncomputable def o345 (P : Params) : Obj := ⟨.type "tuple", none, .seq ⟨[]⟩ 0, ⟨[]⟩⟩
noncomputable def o346 (P : Params) : Obj := ⟨.none, none, .func (mkF (fnA 18) s498 s498 0 [] (.none) (.none) (.none) (.none) none (.none) (.none) 0), ⟨[]⟩⟩
noncomputable def o347 (P : Params) : Obj := ⟨.type "code", none, .fields ⟨[.str s498 2689, .str s498 2690, .str s176 2691, .int 148 0, .int 2 0, .int 0 0, .int 0 0, .int 3 0, .ref 342, .bool true, .int 276 0, .ref 343, .none, .ref 344, .ref 345, .ref 346, .int 2701 0, .int 148 0, .str s176 2702]⟩, ⟨[]⟩⟩
noncomputable def o348 (P : Params) : Obj := ⟨.type "function", none, .func (mkF (fnA 18) s498 s498 3 [] (.none) (.none) (.none) (.str s496 2681) none (.ref 347) (.none) 0), ⟨[]⟩⟩
noncomputable def o349 (P : Params) : Obj := ⟨.type "tuple", none, .seq ⟨[]⟩ 0, ⟨[]⟩⟩
noncomputable def o350 (P : Params) : Obj := ⟨.none, none, .fields ⟨[]⟩, ⟨[]⟩⟩
noncomputable def o351 (P : Params) : Obj := ⟨.none, none, .func (mkF (fnA 19) s507 s507 0 [] (.none) (.none) (.none) (.none) none (.none) (.none) 0), ⟨[]⟩⟩
noncomputable def o352 (P : Params) : Obj := ⟨.type "code", none, .fields ⟨[.str s507 2704, .str s507 2705, .str s176 2706, .int 164 0, .int 3 0, .int 0 0, .int 0 0, .int 3 0, .ref 349, .bool true, .int 276 0, .ref 350, .none, .none, .none, .ref 351, .int 2707 0, .int 164 0, .str s176 2708]⟩, ⟨[]⟩⟩
noncomputable def o353 (P : Params) : Obj := ⟨.type "function", none, .func (mkF (fnA 19) s507 s507 3 [] (.none) (.none) (.none) (.str s496 2681) none (.ref 352) (.none) 0), ⟨[]⟩⟩
noncomputable def o354 (P : Params) : Obj := ⟨.type "tuple", none, .seq ⟨[]⟩ 0, ⟨[]⟩⟩
noncomputable def o355 (P : Params) : Obj := ⟨.none, none, .fields ⟨[]⟩, ⟨[]⟩⟩
noncomputable def o356 (P : Params) : Obj := ⟨.type "tuple", none, .seq ⟨[.str s499 2713, .str s500 2714, .str s509 2715, .str s209 2716, .str s510 2717, .str s505 2718, .str s511 2719]⟩ 0, ⟨[]⟩⟩
noncomputable def o357 (P : Params) : Obj := ⟨.type "tuple", none, .seq ⟨[]⟩ 0, ⟨[]⟩⟩
noncomputable def o358 (P : Params) : Obj := ⟨.none, none, .func (mkF (fnA 20) s508 s508 0 [] (.none) (.none) (.none) (.none) none (.none) (.none) 0), ⟨[]⟩⟩
noncomputable def o359 (P : Params) : Obj := ⟨.type "code", none, .fields ⟨[.str s508 2710, .str s508 2711, .str s176 2712, .int 174 0, .int 2 0, .int 0 0, .int 0 0, .int 3 0, .ref 354, .bool true, .int 276 0, .ref 355, .none, .ref 356, .ref 357, .ref 358, .int 2720 0, .int 174 0, .str s176 2721]⟩, ⟨[]⟩⟩
noncomputable def o360 (P : Params) : Obj := ⟨.type "function", none, .func (mkF (fnA 20) s508 s508 3 [] (.none) (.none) (.none) (.str s496 2681) none (.ref 359) (.none) 0), ⟨[]⟩⟩
noncomputable def o361 (P : Params) : Obj := ⟨.type "tuple", none, .seq ⟨[]⟩ 0, ⟨[]⟩⟩
noncomputable def o362 (P : Params) : Obj := ⟨.none, none, .fields ⟨[]⟩, ⟨[]⟩⟩
noncomputable def o363 (P : Params) : Obj := ⟨.none, none, .func (mkF (fnA 21) s512 s512 0 [] (.none) (.none) (.none) (.none) none (.none) (.none) 0), ⟨[]⟩⟩
noncomputable def o364 (P : Params) : Obj := ⟨.type "code", none, .fields ⟨[.str s512 2723, .str s512 2724, .str s176 2725, .int 185 0, .int 2 0, .int 0 0, .int 0 0, .int 3 0, .ref 361, .bool true, .int 276 0, .ref 362, .none, .none, .none, .ref 363, .int 2726 0, .int 185 0, .str s176 2727]⟩, ⟨[]⟩⟩
noncomputable def o365 (P : Params) : Obj := ⟨.type "function", none, .func (mkF (fnA 21) s512 s512 3 [] (.none) (.none) (.none) (.str s496 2681) none (.ref 364) (.none) 0), ⟨[]⟩⟩
noncomputable def o3_24 (P : Params) : Obj := ⟨.type "dict", none, .dict ⟨[⟨(kh P s0), .str s0 165, .str s496 2681⟩, ⟨(kh P s2), .str s2 166, .none⟩, ⟨(kh P s3), .str s3 167, .none⟩, ⟨(kh P s4), .str s4 168, .builtin "__main__.__loader__#opaque"⟩, ⟨(kh P s5), .str s5 169, .none⟩, ⟨(kh P s173), .str s173 170, .ref 6⟩, ⟨(kh P s174), .str s174 171, .ref 4⟩, ⟨(kh P s175), .str s175 173, .str s176 172⟩, ⟨(kh P s177), .str s177 174, .none⟩, ⟨(kh P s161), .str s161 275, .ref 12⟩, ⟨(kh P s227), .str s227 288, .ref 38⟩, ⟨(kh P s230), .str s230 292, .str s179 291⟩, ⟨(kh P s231), .str s231 387, .ref 118⟩, ⟨(kh P s260), .str s260 449, .ref 130⟩, ⟨(kh P s261), .str s261 456, .ref 140⟩, ⟨(kh P s263), .str s263 2407, .ref 141⟩, ⟨(kh P s444), .str s444 2415, .ref 186⟩, ⟨(kh P s446), .str s446 2451, .ref 191⟩, ⟨(kh P s448), .str s448 2477, .ref 196⟩, ⟨(kh P s450), .str s450 2511, .ref 201⟩, ⟨(kh P s452), .str s452 2521, .ref 209⟩, ⟨(kh P s456), .str s456 2680, .ref 332⟩, ⟨(kh P s497), .str s497 2688, .ref 341⟩, ⟨(kh P s498), .str s498 2703, .ref 348⟩, ⟨(kh P s507), .str s507 2709, .ref 353⟩, ⟨(kh P s508), .str s508 2722, .ref 360⟩, ⟨(kh P s512), .str s512 2728, .ref 365⟩, ⟨(kh P s513), .str s513 2734, .ref 370⟩]⟩ 28, ⟨[]⟩⟩
noncomputable def o29_24 (P : Params) : Obj := ⟨.none, none, .fields ⟨[.int 2 0, .int 0 0, .ref 37, .int 7 0, .int 0 0, .ref 45, .int 40 0, .int 0 0, .ref 139, .int 43 0, .int 0 0, .ref 185, .int 52 0, .int 0 0, .ref 208, .int 61 0, .int 0 0, .ref 215, .int 143 0, .int 0 0, .ref 340, .int 148 0, .int 0 0, .ref 347, .int 164 0, .int 0 0, .ref 352, .int 174 0, .int 0 0, .ref 359, .int 185 0, .int 0 0, .ref 364, .int 195 0, .int 0 0, .ref 369]⟩, ⟨[]⟩⟩
noncomputable def o366 (P : Params) : Obj := ⟨.type "tuple", none, .seq ⟨[]⟩ 0, ⟨[]⟩⟩
noncomputable def o367 (P : Params) : Obj := ⟨.none, none, .fields ⟨[]⟩, ⟨[]⟩⟩
noncomputable def o368 (P : Params) : Obj := ⟨.none, none, .func (mkF (fnA 22) s513 s513 0 [] (.none) (.none) (.none) (.none) none (.none) (.none) 0), ⟨[]⟩⟩
noncomputable def o369 (P : Params) : Obj := ⟨.type "code", none, .fields ⟨[.str s513 2729, .str s513 2730, .str s176 2731, .int 195 0, .int 1 0, .int 0 0, .int 0 0, .int 3 0, .ref 366, .bool true, .int 276 0, .ref 367, .none, .none, .none, .ref 368, .int 2732 0, .int 195 0, .str s176 2733]⟩, ⟨[]⟩⟩
noncomputable def o370 (P : Params) : Obj := ⟨.type "function", none, .func (mkF (fnA 22) s513 s513 3 [] (.none) (.none) (.none) (.str s496 2681) none (.ref 369) (.none) 0), ⟨[]⟩⟩
noncomputable def o11_e (P : Params) : Obj := ⟨.type "dict", none, .dict ⟨[⟨(kh P s0), .str s0 247, .str s161 246⟩, ⟨(kh P s2), .str s2 248, .none⟩, ⟨(kh P s3), .str s3 250, .str s179 249⟩, ⟨(kh P s4), .str s4 251, .ref 14⟩, ⟨(kh P s5), .str s5 252, .ref 26⟩, ⟨(kh P s16), .str s16 253, .builtin "_sre.compile"⟩, ⟨(kh P s180), .str s180 254, .builtin "_sre.template"⟩, ⟨(kh P s181), .str s181 255, .builtin "_sre.getcodesize"⟩, ⟨(kh P s182), .str s182 256, .builtin "_sre.ascii_iscased"⟩, ⟨(kh P s183), .str s183 257, .builtin "_sre.unicode_iscased"⟩, ⟨(kh P s184), .str s184 258, .builtin "_sre.ascii_tolower"⟩, ⟨(kh P s185), .str s185 259, .builtin "_sre.unicode_tolower"⟩, ⟨(kh P s186), .str s186 261, .int 20230612 260⟩, ⟨(kh P s187), .str s187 263, .int 4 262⟩, ⟨(kh P s188), .str s188 265, .int 4294967295 264⟩, ⟨(kh P s189), .str s189 267, .int 1073741823 266⟩, ⟨(kh P s156), .str s156 269, .str s190 268⟩]⟩ 17, ⟨[]⟩⟩
noncomputable def T0 (P : Params) : BT := (.node (o0 P) (.node (o1 P) (.node (o3 P) (.node (o7 P) (.node (o15 P) .nil .nil) (.node (o23 P) .nil .nil)) (.node (o11 P) (.node (o19 P) .nil .nil) (.node (o27 P) .nil .nil))) (.node (o5 P) (.node (o9 P) (.node (o17 P) .nil .nil) (.node (o25 P) .nil .nil)) (.node (o13 P) (.node (o21 P) .nil .nil) .nil))) (.node (o2 P) (.node (o4 P) (.node (o8 P) (.node (o16 P) .nil .nil) (.node (o24 P) .nil .nil)) (.node (o12 P) (.node (o20 P) .nil .nil) .nil)) (.node (o6 P) (.node (o10 P) (.node (o18 P) .nil .nil) (.node (o26 P) .nil .nil)) (.node (o14 P) (.node (o22 P) .nil .nil) .nil))))
noncomputable def S0 (w : World) (os : OsState) : SharedT := ⟨T0 w.params, 28, {}, ⟨[]⟩, ⟨0, 0, 0, 0⟩, 276, os⟩
noncomputable def T1 (P : Params) : BT := (.node (o0 P) (.node (o1 P) (.node (o3 P) (.node (o7 P) (.node (o15 P) (.node (o31 P) .nil .nil) .nil) (.node (o23 P) .nil .nil)) (.node (o11 P) (.node (o19 P) .nil .nil) (.node (o27 P) .nil .nil))) (.node (o5 P) (.node (o9 P) (.node (o17 P) .nil .nil) (.node (o25 P) .nil .nil)) (.node (o13 P) (.node (o21 P) .nil .nil) (.node (o29 P) .nil .nil)))) (.node (o2 P) (.node (o4 P) (.node (o8 P) (.node (o16 P) .nil .nil) (.node (o24 P) .nil .nil)) (.node (o12 P) (.node (o20 P) .nil .nil) (.node (o28 P) .nil .nil))) (.node (o6 P) (.node (o10 P) (.node (o18 P) .nil .nil) (.node (o26 P) .nil .nil)) (.node (o14 P) (.node (o22 P) .nil .nil) (.node (o30 P) .nil .nil)))))
noncomputable def S1 (w : World) (os : OsState) : SharedT := ⟨T1 w.params, 32, {}, ⟨[]⟩, ⟨0, 0, 0, 0⟩, 282, os⟩
noncomputable def T7 (P : Params) : BT := (.node (o0 P) (.node (o1 P) (.node (o3_7 P) (.node (o7 P) (.node (o15 P) (.node (o31 P) (.node (o63 P) .nil .nil) (.node (o95 P) .nil .nil)) (.node (o47 P) (.node (o79 P) .nil .nil) (.node (o111 P) .nil .nil))) (.node (o23 P) (.node (o39 P) (.node (o71 P) .nil .nil) (.node (o103 P) .nil .nil)) (.node (o55 P) (.node (o87 P) .nil .nil) (.node (o119 P) .nil .nil)))) (.node (o11 P) (.node (o19 P) (.node (o35 P) (.node (o67 P) .nil .nil) (.node (o99 P) .nil .nil)) (.node (o51 P) (.node (o83 P) .nil .nil) (.node (o115 P) .nil .nil))) (.node (o27 P) (.node (o43 P) (.node (o75 P) .nil .nil) (.node (o107 P) .nil .nil)) (.node (o59 P) (.node (o91 P) .nil .nil) .nil)))) (.node (o5 P) (.node (o9 P) (.node (o17 P) (.node (o33 P) (.node (o65 P) .nil .nil) (.node (o97 P) .nil .nil)) (.node (o49 P) (.node (o81 P) .nil .nil) (.node (o113 P) .nil .nil))) (.node (o25 P) (.node (o41 P) (.node (o73 P) .nil .nil) (.node (o105 P) .nil .nil)) (.node (o57 P) (.node (o89 P) .nil .nil) (.node (o121 P) .nil .nil)))) (.node (o13 P) (.node (o21 P) (.node (o37 P) (.node (o69 P) .nil .nil) (.node (o101 P) .nil .nil)) (.node (o53 P) (.node (o85 P) .nil .nil) (.node (o117 P) .nil .nil))) (.node (o29_6 P) (.node (o45 P) (.node (o77 P) .nil .nil) (.node (o109 P) .nil .nil)) (.node (o61 P) (.node (o93 P) .nil .nil) .nil))))) (.node (o2 P) (.node (o4 P) (.node (o8 P) (.node (o16 P) (.node (o32 P) (.node (o64 P) .nil .nil) (.node (o96 P) .nil .nil)) (.node (o48 P) (.node (o80 P) .nil .nil) (.node (o112 P) .nil .nil))) (.node (o24 P) (.node (o40 P) (.node (o72 P) .nil .nil) (.node (o104 P) .nil .nil)) (.node (o56 P) (.node (o88 P) .nil .nil) (.node (o120 P) .nil .nil)))) (.node (o12 P) (.node (o20 P) (.node (o36 P) (.node (o68 P) .nil .nil) (.node (o100 P) .nil .nil)) (.node (o52 P) (.node (o84 P) .nil .nil) (.node (o116 P) .nil .nil))) (.node (o28 P) (.node (o44 P) (.node (o76 P) .nil .nil) (.node (o108 P) .nil .nil)) (.node (o60 P) (.node (o92 P) .nil .nil) .nil)))) (.node (o6 P) (.node (o10 P) (.node (o18 P) (.node (o34 P) (.node (o66 P) .nil .nil) (.node (o98 P) .nil .nil)) (.node (o50 P) (.node (o82 P) .nil .nil) (.node (o114 P) .nil .nil))) (.node (o26 P) (.node (o42 P) (.node (o74 P) .nil .nil) (.node (o106 P) .nil .nil)) (.node (o58 P) (.node (o90 P) .nil .nil) (.node (o122 P) .nil .nil)))) (.node (o14 P) (.node (o22 P) (.node (o38 P) (.node (o70 P) .nil .nil) (.node (o102 P) .nil .nil)) (.node (o54 P) (.node (o86 P) .nil .nil) (.node (o118 P) .nil .nil))) (.node (o30 P) (.node (o46 P) (.node (o78 P) .nil .nil) (.node (o110 P) .nil .nil)) (.node (o62 P) (.node (o94 P) .nil .nil) .nil))))))
noncomputable def S7 (w : World) (os : OsState) : SharedT := ⟨T7 w.params, 123, {}, ⟨[]⟩, ⟨0, 0, 0, 0⟩, 390, os⟩
noncomputable def T8 (P : Params) : BT := (.node (o0 P) (.node (o1 P) (.node (o3_8 P) (.node (o7 P) (.node (o15 P) (.node (o31 P) (.node (o63 P) (.node (o127 P) .nil .nil) .nil) (.node (o95 P) .nil .nil)) (.node (o47 P) (.node (o79 P) .nil .nil) (.node (o111 P) .nil .nil))) (.node (o23 P) (.node (o39 P) (.node (o71 P) .nil .nil) (.node (o103 P) .nil .nil)) (.node (o55 P) (.node (o87 P) .nil .nil) (.node (o119 P) .nil .nil)))) (.node (o11 P) (.node (o19 P) (.node (o35 P) (.node (o67 P) (.node (o131 P) .nil .nil) .nil) (.node (o99 P) .nil .nil)) (.node (o51 P) (.node (o83 P) .nil .nil) (.node (o115 P) .nil .nil))) (.node (o27 P) (.node (o43 P) (.node (o75 P) .nil .nil) (.node (o107 P) .nil .nil)) (.node (o59 P) (.node (o91 P) .nil .nil) (.node (o123 P) .nil .nil))))) (.node (o5 P) (.node (o9 P) (.node (o17 P) (.node (o33 P) (.node (o65 P) (.node (o129 P) .nil .nil) .nil) (.node (o97 P) .nil .nil)) (.node (o49 P) (.node (o81 P) .nil .nil) (.node (o113 P) .nil .nil))) (.node (o25 P) (.node (o41 P) (.node (o73 P) .nil .nil) (.node (o105 P) .nil .nil)) (.node (o57 P) (.node (o89 P) .nil .nil) (.node (o121 P) .nil .nil)))) (.node (o13 P) (.node (o21 P) (.node (o37 P) (.node (o69 P) (.node (o133 P) .nil .nil) .nil) (.node (o101 P) .nil .nil)) (.node (o53 P) (.node (o85 P) .nil .nil) (.node (o117 P) .nil .nil))) (.node (o29_6 P) (.node (o45 P) (.node (o77 P) .nil .nil) (.node (o109 P) .nil .nil)) (.node (o61 P) (.node (o93 P) .nil .nil) (.node (o125 P) .nil .nil)))))) (.node (o2 P) (.node (o4 P) (.node (o8 P) (.node (o16 P) (.node (o32 P) (.node (o64 P) (.node (o128 P) .nil .nil) .nil) (.node (o96 P) .nil .nil)) (.node (o48 P) (.node (o80 P) .nil .nil) (.node (o112 P) .nil .nil))) (.node (o24 P) (.node (o40 P) (.node (o72 P) .nil .nil) (.node (o104 P) .nil .nil)) (.node (o56 P) (.node (o88 P) .nil .nil) (.node (o120 P) .nil .nil)))) (.node (o12 P) (.node (o20 P) (.node (o36 P) (.node (o68 P) (.node (o132 P) .nil .nil) .nil) (.node (o100 P) .nil .nil)) (.node (o52 P) (.node (o84 P) .nil .nil) (.node (o116 P) .nil .nil))) (.node (o28 P) (.node (o44 P) (.node (o76 P) .nil .nil) (.node (o108 P) .nil .nil)) (.node (o60 P) (.node (o92 P) .nil .nil) (.node (o124 P) .nil .nil))))) (.node (o6 P) (.node (o10 P) (.node (o18 P) (.node (o34 P) (.node (o66 P) (.node (o130 P) .nil .nil) .nil) (.node (o98 P) .nil .nil)) (.node (o50 P) (.node (o82 P) .nil .nil) (.node (o114 P) .nil .nil))) (.node (o26 P) (.node (o42 P) (.node (o74 P) .nil .nil) (.node (o106 P) .nil .nil)) (.node (o58 P) (.node (o90 P) .nil .nil) (.node (o122 P) .nil .nil)))) (.node (o14 P) (.node (o22 P) (.node (o38 P) (.node (o70 P) .nil .nil) (.node (o102 P) .nil .nil)) (.node (o54 P) (.node (o86 P) .nil .nil) (.node (o118 P) .nil .nil))) (.node (o30 P) (.node (o46 P) (.node (o78 P) .nil .nil) (.node (o110 P) .nil .nil)) (.node (o62 P) (.node (o94 P) .nil .nil) (.node (o126 P) .nil .nil)))))))
noncomputable def S8 (w : World) (os : OsState) : SharedT := ⟨T8 w.params, 134, {}, ⟨[]⟩, ⟨0, 0, 0, 0⟩, 450, os⟩
noncomputable def T9 (P : Params) : BT := (.node (o0 P) (.node (o1 P) (.node (o3_9 P) (.node (o7 P) (.node (o15 P) (.node (o31 P) (.node (o63 P) (.node (o127 P) .nil .nil) .nil) (.node (o95 P) .nil .nil)) (.node (o47 P) (.node (o79 P) .nil .nil) (.node (o111 P) .nil .nil))) (.node (o23 P) (.node (o39 P) (.node (o71 P) (.node (o135 P) .nil .nil) .nil) (.node (o103 P) .nil .nil)) (.node (o55 P) (.node (o87 P) .nil .nil) (.node (o119 P) .nil .nil)))) (.node (o11 P) (.node (o19 P) (.node (o35 P) (.node (o67 P) (.node (o131 P) .nil .nil) .nil) (.node (o99 P) .nil .nil)) (.node (o51 P) (.node (o83 P) .nil .nil) (.node (o115 P) .nil .nil))) (.node (o27 P) (.node (o43 P) (.node (o75 P) (.node (o139 P) .nil .nil) .nil) (.node (o107 P) .nil .nil)) (.node (o59 P) (.node (o91 P) .nil .nil) (.node (o123 P) .nil .nil))))) (.node (o5 P) (.node (o9 P) (.node (o17 P) (.node (o33 P) (.node (o65 P) (.node (o129 P) .nil .nil) .nil) (.node (o97 P) .nil .nil)) (.node (o49 P) (.node (o81 P) .nil .nil) (.node (o113 P) .nil .nil))) (.node (o25 P) (.node (o41 P) (.node (o73 P) (.node (o137 P) .nil .nil) .nil) (.node (o105 P) .nil .nil)) (.node (o57 P) (.node (o89 P) .nil .nil) (.node (o121 P) .nil .nil)))) (.node (o13 P) (.node (o21 P) (.node (o37 P) (.node (o69 P) (.node (o133 P) .nil .nil) .nil) (.node (o101 P) .nil .nil)) (.node (o53 P) (.node (o85 P) .nil .nil) (.node (o117 P) .nil .nil))) (.node (o29_9 P) (.node (o45 P) (.node (o77 P) .nil .nil) (.node (o109 P) .nil .nil)) (.node (o61 P) (.node (o93 P) .nil .nil) (.node (o125 P) .nil .nil)))))) (.node (o2 P) (.node (o4 P) (.node (o8 P) (.node (o16 P) (.node (o32 P) (.node (o64 P) (.node (o128 P) .nil .nil) .nil) (.node (o96 P) .nil .nil)) (.node (o48 P) (.node (o80 P) .nil .nil) (.node (o112 P) .nil .nil))) (.node (o24 P) (.node (o40 P) (.node (o72 P) (.node (o136 P) .nil .nil) .nil) (.node (o104 P) .nil .nil)) (.node (o56 P) (.node (o88 P) .nil .nil) (.node (o120 P) .nil .nil)))) (.node (o12 P) (.node (o20 P) (.node (o36 P) (.node (o68 P) (.node (o132 P) .nil .nil) .nil) (.node (o100 P) .nil .nil)) (.node (o52 P) (.node (o84 P) .nil .nil) (.node (o116 P) .nil .nil))) (.node (o28 P) (.node (o44 P) (.node (o76 P) (.node (o140 P) .nil .nil) .nil) (.node (o108 P) .nil .nil)) (.node (o60 P) (.node (o92 P) .nil .nil) (.node (o124 P) .nil .nil))))) (.node (o6 P) (.node (o10 P) (.node (o18 P) (.node (o34 P) (.node (o66 P) (.node (o130 P) .nil .nil) .nil) (.node (o98 P) .nil .nil)) (.node (o50 P) (.node (o82 P) .nil .nil) (.node (o114 P) .nil .nil))) (.node (o26 P) (.node (o42 P) (.node (o74 P) (.node (o138 P) .nil .nil) .nil) (.node (o106 P) .nil .nil)) (.node (o58 P) (.node (o90 P) .nil .nil) (.node (o122 P) .nil .nil)))) (.node (o14 P) (.node (o22 P) (.node (o38 P) (.node (o70 P) (.node (o134 P) .nil .nil) .nil) (.node (o102 P) .nil .nil)) (.node (o54 P) (.node (o86 P) .nil .nil) (.node (o118 P) .nil .nil))) (.node (o30 P) (.node (o46 P) (.node (o78 P) .nil .nil) (.node (o110 P) .nil .nil)) (.node (o62 P) (.node (o94 P) .nil .nil) (.node (o126 P) .nil .nil)))))))
noncomputable def S9 (w : World) (os : OsState) : SharedT := ⟨T9 w.params, 141, {}, ⟨[]⟩, ⟨0, 0, 0, 0⟩, 457, os⟩
noncomputable def T10 (P : Params) : BT := (.node (o0 P) (.node (o1 P) (.node (o3_10 P) (.node (o7 P) (.node (o15 P) (.node (o31 P) (.node (o63 P) (.node (o127 P) .nil .nil) .nil) (.node (o95 P) (.node (o159 P) .nil .nil) .nil)) (.node (o47 P) (.node (o79 P) (.node (o143 P) .nil .nil) .nil) (.node (o111 P) (.node (o175 P) .nil .nil) .nil))) (.node (o23 P) (.node (o39 P) (.node (o71 P) (.node (o135 P) .nil .nil) .nil) (.node (o103 P) (.node (o167 P) .nil .nil) .nil)) (.node (o55 P) (.node (o87 P) (.node (o151 P) .nil .nil) .nil) (.node (o119 P) .nil .nil)))) (.node (o11 P) (.node (o19 P) (.node (o35 P) (.node (o67 P) (.node (o131 P) .nil .nil) .nil) (.node (o99 P) (.node (o163 P) .nil .nil) .nil)) (.node (o51 P) (.node (o83 P) (.node (o147 P) .nil .nil) .nil) (.node (o115 P) (.node (o179 P) .nil .nil) .nil))) (.node (o27 P) (.node (o43 P) (.node (o75 P) (.node (o139 P) .nil .nil) .nil) (.node (o107 P) (.node (o171 P) .nil .nil) .nil)) (.node (o59 P) (.node (o91 P) (.node (o155 P) .nil .nil) .nil) (.node (o123 P) .nil .nil))))) (.node (o5 P) (.node (o9 P) (.node (o17 P) (.node (o33 P) (.node (o65 P) (.node (o129 P) .nil .nil) .nil) (.node (o97 P) (.node (o161 P) .nil .nil) .nil)) (.node (o49 P) (.node (o81 P) (.node (o145 P) .nil .nil) .nil) (.node (o113 P) (.node (o177 P) .nil .nil) .nil))) (.node (o25 P) (.node (o41 P) (.node (o73 P) (.node (o137 P) .nil .nil) .nil) (.node (o105 P) (.node (o169 P) .nil .nil) .nil)) (.node (o57 P) (.node (o89 P) (.node (o153 P) .nil .nil) .nil) (.node (o121 P) .nil .nil)))) (.node (o13 P) (.node (o21 P) (.node (o37 P) (.node (o69 P) (.node (o133 P) .nil .nil) .nil) (.node (o101 P) (.node (o165 P) .nil .nil) .nil)) (.node (o53 P) (.node (o85 P) (.node (o149 P) .nil .nil) .nil) (.node (o117 P) .nil .nil))) (.node (o29_9 P) (.node (o45 P) (.node (o77 P) (.node (o141 P) .nil .nil) .nil) (.node (o109 P) (.node (o173 P) .nil .nil) .nil)) (.node (o61 P) (.node (o93 P) (.node (o157 P) .nil .nil) .nil) (.node (o125 P) .nil .nil)))))) (.node (o2 P) (.node (o4 P) (.node (o8 P) (.node (o16 P) (.node (o32 P) (.node (o64 P) (.node (o128 P) .nil .nil) .nil) (.node (o96 P) (.node (o160 P) .nil .nil) .nil)) (.node (o48 P) (.node (o80 P) (.node (o144 P) .nil .nil) .nil) (.node (o112 P) (.node (o176 P) .nil .nil) .nil))) (.node (o24 P) (.node (o40 P) (.node (o72 P) (.node (o136 P) .nil .nil) .nil) (.node (o104 P) (.node (o168 P) .nil .nil) .nil)) (.node (o56 P) (.node (o88 P) (.node (o152 P) .nil .nil) .nil) (.node (o120 P) .nil .nil)))) (.node (o12 P) (.node (o20 P) (.node (o36 P) (.node (o68 P) (.node (o132 P) .nil .nil) .nil) (.node (o100 P) (.node (o164 P) .nil .nil) .nil)) (.node (o52 P) (.node (o84 P) (.node (o148 P) .nil .nil) .nil) (.node (o116 P) .nil .nil))) (.node (o28 P) (.node (o44 P) (.node (o76 P) (.node (o140 P) .nil .nil) .nil) (.node (o108 P) (.node (o172 P) .nil .nil) .nil)) (.node (o60 P) (.node (o92 P) (.node (o156 P) .nil .nil) .nil) (.node (o124 P) .nil .nil))))) (.node (o6 P) (.node (o10 P) (.node (o18 P) (.node (o34 P) (.node (o66 P) (.node (o130 P) .nil .nil) .nil) (.node (o98 P) (.node (o162 P) .nil .nil) .nil)) (.node (o50 P) (.node (o82 P) (.node (o146 P) .nil .nil) .nil) (.node (o114 P) (.node (o178 P) .nil .nil) .nil))) (.node (o26 P) (.node (o42 P) (.node (o74 P) (.node (o138 P) .nil .nil) .nil) (.node (o106 P) (.node (o170 P) .nil .nil) .nil)) (.node (o58 P) (.node (o90 P) (.node (o154 P) .nil .nil) .nil) (.node (o122 P) .nil .nil)))) (.node (o14 P) (.node (o22 P) (.node (o38 P) (.node (o70 P) (.node (o134 P) .nil .nil) .nil) (.node (o102 P) (.node (o166 P) .nil .nil) .nil)) (.node (o54 P) (.node (o86 P) (.node (o150 P) .nil .nil) .nil) (.node (o118 P) .nil .nil))) (.node (o30 P) (.node (o46 P) (.node (o78 P) (.node (o142 P) .nil .nil) .nil) (.node (o110 P) (.node (o174 P) .nil .nil) .nil)) (.node (o62 P) (.node (o94 P) (.node (o158 P) .nil .nil) .nil) (.node (o126 P) .nil .nil)))))))
noncomputable def S10 (w : World) (os : OsState) : SharedT := ⟨T10 w.params, 180, {}, ⟨[]⟩, ⟨0, 0, 0, 0⟩, 2408, os⟩
noncomputable def T16 (P : Params) : BT := (.node (o0 P) (.node (o1 P) (.node (o3_16 P) (.node (o7 P) (.node (o15 P) (.node (o31 P) (.node (o63 P) (.node (o127 P) .nil .nil) (.node (o191 P) .nil .nil)) (.node (o95 P) (.node (o159 P) .nil .nil) .nil)) (.node (o47 P) (.node (o79 P) (.node (o143 P) .nil .nil) (.node (o207 P) .nil .nil)) (.node (o111 P) (.node (o175 P) .nil .nil) .nil))) (.node (o23 P) (.node (o39 P) (.node (o71 P) (.node (o135 P) .nil .nil) (.node (o199 P) .nil .nil)) (.node (o103 P) (.node (o167 P) .nil .nil) .nil)) (.node (o55 P) (.node (o87 P) (.node (o151 P) .nil .nil) .nil) (.node (o119 P) (.node (o183 P) .nil .nil) .nil)))) (.node (o11 P) (.node (o19 P) (.node (o35 P) (.node (o67 P) (.node (o131 P) .nil .nil) (.node (o195 P) .nil .nil)) (.node (o99 P) (.node (o163 P) .nil .nil) .nil)) (.node (o51 P) (.node (o83 P) (.node (o147 P) .nil .nil) .nil) (.node (o115 P) (.node (o179 P) .nil .nil) .nil))) (.node (o27 P) (.node (o43 P) (.node (o75 P) (.node (o139 P) .nil .nil) (.node (o203 P) .nil .nil)) (.node (o107 P) (.node (o171 P) .nil .nil) .nil)) (.node (o59 P) (.node (o91 P) (.node (o155 P) .nil .nil) .nil) (.node (o123 P) (.node (o187 P) .nil .nil) .nil))))) (.node (o5 P) (.node (o9 P) (.node (o17 P) (.node (o33 P) (.node (o65 P) (.node (o129 P) .nil .nil) (.node (o193 P) .nil .nil)) (.node (o97 P) (.node (o161 P) .nil .nil) .nil)) (.node (o49 P) (.node (o81 P) (.node (o145 P) .nil .nil) (.node (o209 P) .nil .nil)) (.node (o113 P) (.node (o177 P) .nil .nil) .nil))) (.node (o25 P) (.node (o41 P) (.node (o73 P) (.node (o137 P) .nil .nil) (.node (o201 P) .nil .nil)) (.node (o105 P) (.node (o169 P) .nil .nil) .nil)) (.node (o57 P) (.node (o89 P) (.node (o153 P) .nil .nil) .nil) (.node (o121 P) (.node (o185 P) .nil .nil) .nil)))) (.node (o13 P) (.node (o21 P) (.node (o37 P) (.node (o69 P) (.node (o133 P) .nil .nil) (.node (o197 P) .nil .nil)) (.node (o101 P) (.node (o165 P) .nil .nil) .nil)) (.node (o53 P) (.node (o85 P) (.node (o149 P) .nil .nil) .nil) (.node (o117 P) (.node (o181 P) .nil .nil) .nil))) (.node (o29_16 P) (.node (o45 P) (.node (o77 P) (.node (o141 P) .nil .nil) (.node (o205 P) .nil .nil)) (.node (o109 P) (.node (o173 P) .nil .nil) .nil)) (.node (o61 P) (.node (o93 P) (.node (o157 P) .nil .nil) .nil) (.node (o125 P) (.node (o189 P) .nil .nil) .nil)))))) (.node (o2 P) (.node (o4 P) (.node (o8 P) (.node (o16 P) (.node (o32 P) (.node (o64 P) (.node (o128 P) .nil .nil) (.node (o192 P) .nil .nil)) (.node (o96 P) (.node (o160 P) .nil .nil) .nil)) (.node (o48 P) (.node (o80 P) (.node (o144 P) .nil .nil) (.node (o208 P) .nil .nil)) (.node (o112 P) (.node (o176 P) .nil .nil) .nil))) (.node (o24 P) (.node (o40 P) (.node (o72 P) (.node (o136 P) .nil .nil) (.node (o200 P) .nil .nil)) (.node (o104 P) (.node (o168 P) .nil .nil) .nil)) (.node (o56 P) (.node (o88 P) (.node (o152 P) .nil .nil) .nil) (.node (o120 P) (.node (o184 P) .nil .nil) .nil)))) (.node (o12 P) (.node (o20 P) (.node (o36 P) (.node (o68 P) (.node (o132 P) .nil .nil) (.node (o196 P) .nil .nil)) (.node (o100 P) (.node (o164 P) .nil .nil) .nil)) (.node (o52 P) (.node (o84 P) (.node (o148 P) .nil .nil) .nil) (.node (o116 P) (.node (o180 P) .nil .nil) .nil))) (.node (o28 P) (.node (o44 P) (.node (o76 P) (.node (o140 P) .nil .nil) (.node (o204 P) .nil .nil)) (.node (o108 P) (.node (o172 P) .nil .nil) .nil)) (.node (o60 P) (.node (o92 P) (.node (o156 P) .nil .nil) .nil) (.node (o124 P) (.node (o188 P) .nil .nil) .nil))))) (.node (o6 P) (.node (o10 P) (.node (o18 P) (.node (o34 P) (.node (o66 P) (.node (o130 P) .nil .nil) (.node (o194 P) .nil .nil)) (.node (o98 P) (.node (o162 P) .nil .nil) .nil)) (.node (o50 P) (.node (o82 P) (.node (o146 P) .nil .nil) .nil) (.node (o114 P) (.node (o178 P) .nil .nil) .nil))) (.node (o26 P) (.node (o42 P) (.node (o74 P) (.node (o138 P) .nil .nil) (.node (o202 P) .nil .nil)) (.node (o106 P) (.node (o170 P) .nil .nil) .nil)) (.node (o58 P) (.node (o90 P) (.node (o154 P) .nil .nil) .nil) (.node (o122 P) (.node (o186 P) .nil .nil) .nil)))) (.node (o14 P) (.node (o22 P) (.node (o38 P) (.node (o70 P) (.node (o134 P) .nil .nil) (.node (o198 P) .nil .nil)) (.node (o102 P) (.node (o166 P) .nil .nil) .nil)) (.node (o54 P) (.node (o86 P) (.node (o150 P) .nil .nil) .nil) (.node (o118 P) (.node (o182 P) .nil .nil) .nil))) (.node (o30 P) (.node (o46 P) (.node (o78 P) (.node (o142 P) .nil .nil) (.node (o206 P) .nil .nil)) (.node (o110 P) (.node (o174 P) .nil .nil) .nil)) (.node (o62 P) (.node (o94 P) (.node (o158 P) .nil .nil) .nil) (.node (o126 P) (.node (o190 P) .nil .nil) .nil)))))))
noncomputable def S16 (w : World) (os : OsState) : SharedT := ⟨T16 w.params, 210, {}, ⟨[]⟩, ⟨0, 0, 0, 0⟩, 2522, os⟩
noncomputable def T17 (P : Params) : BT := (.node (o0 P) (.node (o1 P) (.node (o3_17 P) (.node (o7 P) (.node (o15 P) (.node (o31 P) (.node (o63 P) (.node (o127 P) (.node (o255 P) .nil .nil) .nil) (.node (o191 P) (.node (o319 P) .nil .nil) .nil)) (.node (o95 P) (.node (o159 P) (.node (o287 P) .nil .nil) .nil) (.node (o223 P) .nil .nil))) (.node (o47 P) (.node (o79 P) (.node (o143 P) (.node (o271 P) .nil .nil) .nil) (.node (o207 P) (.node (o335 P) .nil .nil) .nil)) (.node (o111 P) (.node (o175 P) (.node (o303 P) .nil .nil) .nil) (.node (o239 P) .nil .nil)))) (.node (o23 P) (.node (o39 P) (.node (o71 P) (.node (o135 P) (.node (o263 P) .nil .nil) .nil) (.node (o199 P) (.node (o327 P) .nil .nil) .nil)) (.node (o103 P) (.node (o167 P) (.node (o295 P) .nil .nil) .nil) (.node (o231 P) .nil .nil))) (.node (o55 P) (.node (o87 P) (.node (o151 P) (.node (o279 P) .nil .nil) .nil) (.node (o215 P) .nil .nil)) (.node (o119 P) (.node (o183 P) (.node (o311 P) .nil .nil) .nil) (.node (o247 P) .nil .nil))))) (.node (o11 P) (.node (o19 P) (.node (o35 P) (.node (o67 P) (.node (o131 P) (.node (o259 P) .nil .nil) .nil) (.node (o195 P) (.node (o323 P) .nil .nil) .nil)) (.node (o99 P) (.node (o163 P) (.node (o291 P) .nil .nil) .nil) (.node (o227 P) .nil .nil))) (.node (o51 P) (.node (o83 P) (.node (o147 P) (.node (o275 P) .nil .nil) .nil) (.node (o211 P) .nil .nil)) (.node (o115 P) (.node (o179 P) (.node (o307 P) .nil .nil) .nil) (.node (o243 P) .nil .nil)))) (.node (o27 P) (.node (o43 P) (.node (o75 P) (.node (o139 P) (.node (o267 P) .nil .nil) .nil) (.node (o203 P) (.node (o331 P) .nil .nil) .nil)) (.node (o107 P) (.node (o171 P) (.node (o299 P) .nil .nil) .nil) (.node (o235 P) .nil .nil))) (.node (o59 P) (.node (o91 P) (.node (o155 P) (.node (o283 P) .nil .nil) .nil) (.node (o219 P) .nil .nil)) (.node (o123 P) (.node (o187 P) (.node (o315 P) .nil .nil) .nil) (.node (o251 P) .nil .nil)))))) (.node (o5 P) (.node (o9 P) (.node (o17 P) (.node (o33 P) (.node (o65 P) (.node (o129 P) (.node (o257 P) .nil .nil) .nil) (.node (o193 P) (.node (o321 P) .nil .nil) .nil)) (.node (o97 P) (.node (o161 P) (.node (o289 P) .nil .nil) .nil) (.node (o225 P) .nil .nil))) (.node (o49 P) (.node (o81 P) (.node (o145 P) (.node (o273 P) .nil .nil) .nil) (.node (o209 P) .nil .nil)) (.node (o113 P) (.node (o177 P) (.node (o305 P) .nil .nil) .nil) (.node (o241 P) .nil .nil)))) (.node (o25 P) (.node (o41 P) (.node (o73 P) (.node (o137 P) (.node (o265 P) .nil .nil) .nil) (.node (o201 P) (.node (o329 P) .nil .nil) .nil)) (.node (o105 P) (.node (o169 P) (.node (o297 P) .nil .nil) .nil) (.node (o233 P) .nil .nil))) (.node (o57 P) (.node (o89 P) (.node (o153 P) (.node (o281 P) .nil .nil) .nil) (.node (o217 P) .nil .nil)) (.node (o121 P) (.node (o185 P) (.node (o313 P) .nil .nil) .nil) (.node (o249 P) .nil .nil))))) (.node (o13 P) (.node (o21 P) (.node (o37 P) (.node (o69 P) (.node (o133 P) (.node (o261 P) .nil .nil) .nil) (.node (o197 P) (.node (o325 P) .nil .nil) .nil)) (.node (o101 P) (.node (o165 P) (.node (o293 P) .nil .nil) .nil) (.node (o229 P) .nil .nil))) (.node (o53 P) (.node (o85 P) (.node (o149 P) (.node (o277 P) .nil .nil) .nil) (.node (o213 P) .nil .nil)) (.node (o117 P) (.node (o181 P) (.node (o309 P) .nil .nil) .nil) (.node (o245 P) .nil .nil)))) (.node (o29_17 P) (.node (o45 P) (.node (o77 P) (.node (o141 P) (.node (o269 P) .nil .nil) .nil) (.node (o205 P) (.node (o333 P) .nil .nil) .nil)) (.node (o109 P) (.node (o173 P) (.node (o301 P) .nil .nil) .nil) (.node (o237 P) .nil .nil))) (.node (o61 P) (.node (o93 P) (.node (o157 P) (.node (o285 P) .nil .nil) .nil) (.node (o221 P) .nil .nil)) (.node (o125 P) (.node (o189 P) (.node (o317 P) .nil .nil) .nil) (.node (o253 P) .nil .nil))))))) (.node (o2 P) (.node (o4 P) (.node (o8 P) (.node (o16 P) (.node (o32 P) (.node (o64 P) (.node (o128 P) (.node (o256 P) .nil .nil) .nil) (.node (o192 P) (.node (o320 P) .nil .nil) .nil)) (.node (o96 P) (.node (o160 P) (.node (o288 P) .nil .nil) .nil) (.node (o224 P) .nil .nil))) (.node (o48 P) (.node (o80 P) (.node (o144 P) (.node (o272 P) .nil .nil) .nil) (.node (o208 P) (.node (o336 P) .nil .nil) .nil)) (.node (o112 P) (.node (o176 P) (.node (o304 P) .nil .nil) .nil) (.node (o240 P) .nil .nil)))) (.node (o24 P) (.node (o40 P) (.node (o72 P) (.node (o136 P) (.node (o264 P) .nil .nil) .nil) (.node (o200 P) (.node (o328 P) .nil .nil) .nil)) (.node (o104 P) (.node (o168 P) (.node (o296 P) .nil .nil) .nil) (.node (o232 P) .nil .nil))) (.node (o56 P) (.node (o88 P) (.node (o152 P) (.node (o280 P) .nil .nil) .nil) (.node (o216 P) .nil .nil)) (.node (o120 P) (.node (o184 P) (.node (o312 P) .nil .nil) .nil) (.node (o248 P) .nil .nil))))) (.node (o12 P) (.node (o20 P) (.node (o36 P) (.node (o68 P) (.node (o132 P) (.node (o260 P) .nil .nil) .nil) (.node (o196 P) (.node (o324 P) .nil .nil) .nil)) (.node (o100 P) (.node (o164 P) (.node (o292 P) .nil .nil) .nil) (.node (o228 P) .nil .nil))) (.node (o52 P) (.node (o84 P) (.node (o148 P) (.node (o276 P) .nil .nil) .nil) (.node (o212 P) .nil .nil)) (.node (o116 P) (.node (o180 P) (.node (o308 P) .nil .nil) .nil) (.node (o244 P) .nil .nil)))) (.node (o28 P) (.node (o44 P) (.node (o76 P) (.node (o140 P) (.node (o268 P) .nil .nil) .nil) (.node (o204 P) (.node (o332 P) .nil .nil) .nil)) (.node (o108 P) (.node (o172 P) (.node (o300 P) .nil .nil) .nil) (.node (o236 P) .nil .nil))) (.node (o60 P) (.node (o92 P) (.node (o156 P) (.node (o284 P) .nil .nil) .nil) (.node (o220 P) .nil .nil)) (.node (o124 P) (.node (o188 P) (.node (o316 P) .nil .nil) .nil) (.node (o252 P) .nil .nil)))))) (.node (o6 P) (.node (o10 P) (.node (o18 P) (.node (o34 P) (.node (o66 P) (.node (o130 P) (.node (o258 P) .nil .nil) .nil) (.node (o194 P) (.node (o322 P) .nil .nil) .nil)) (.node (o98 P) (.node (o162 P) (.node (o290 P) .nil .nil) .nil) (.node (o226 P) .nil .nil))) (.node (o50 P) (.node (o82 P) (.node (o146 P) (.node (o274 P) .nil .nil) .nil) (.node (o210 P) .nil .nil)) (.node (o114 P) (.node (o178 P) (.node (o306 P) .nil .nil) .nil) (.node (o242 P) .nil .nil)))) (.node (o26 P) (.node (o42 P) (.node (o74 P) (.node (o138 P) (.node (o266 P) .nil .nil) .nil) (.node (o202 P) (.node (o330 P) .nil .nil) .nil)) (.node (o106 P) (.node (o170 P) (.node (o298 P) .nil .nil) .nil) (.node (o234 P) .nil .nil))) (.node (o58 P) (.node (o90 P) (.node (o154 P) (.node (o282 P) .nil .nil) .nil) (.node (o218 P) .nil .nil)) (.node (o122 P) (.node (o186 P) (.node (o314 P) .nil .nil) .nil) (.node (o250 P) .nil .nil))))) (.node (o14 P) (.node (o22 P) (.node (o38 P) (.node (o70 P) (.node (o134 P) (.node (o262 P) .nil .nil) .nil) (.node (o198 P) (.node (o326 P) .nil .nil) .nil)) (.node (o102 P) (.node (o166 P) (.node (o294 P) .nil .nil) .nil) (.node (o230 P) .nil .nil))) (.node (o54 P) (.node (o86 P) (.node (o150 P) (.node (o278 P) .nil .nil) .nil) (.node (o214 P) .nil .nil)) (.node (o118 P) (.node (o182 P) (.node (o310 P) .nil .nil) .nil) (.node (o246 P) .nil .nil)))) (.node (o30 P) (.node (o46 P) (.node (o78 P) (.node (o142 P) (.node (o270 P) .nil .nil) .nil) (.node (o206 P) (.node (o334 P) .nil .nil) .nil)) (.node (o110 P) (.node (o174 P) (.node (o302 P) .nil .nil) .nil) (.node (o238 P) .nil .nil))) (.node (o62 P) (.node (o94 P) (.node (o158 P) (.node (o286 P) .nil .nil) .nil) (.node (o222 P) .nil .nil)) (.node (o126 P) (.node (o190 P) (.node (o318 P) .nil .nil) .nil) (.node (o254 P) .nil .nil))))))))
noncomputable def S17 (w : World) (os : OsState) : SharedT := ⟨T17 w.params, 337, {}, ⟨[]⟩, ⟨0, 0, 0, 0⟩, 2681, os⟩
noncomputable def T24 (P : Params) : BT := (.node (o0 P) (.node (o1 P) (.node (o3_24 P) (.node (o7 P) (.node (o15 P) (.node (o31 P) (.node (o63 P) (.node (o127 P) (.node (o255 P) .nil .nil) .nil) (.node (o191 P) (.node (o319 P) .nil .nil) .nil)) (.node (o95 P) (.node (o159 P) (.node (o287 P) .nil .nil) .nil) (.node (o223 P) (.node (o351 P) .nil .nil) .nil))) (.node (o47 P) (.node (o79 P) (.node (o143 P) (.node (o271 P) .nil .nil) .nil) (.node (o207 P) (.node (o335 P) .nil .nil) .nil)) (.node (o111 P) (.node (o175 P) (.node (o303 P) .nil .nil) .nil) (.node (o239 P) (.node (o367 P) .nil .nil) .nil)))) (.node (o23 P) (.node (o39 P) (.node (o71 P) (.node (o135 P) (.node (o263 P) .nil .nil) .nil) (.node (o199 P) (.node (o327 P) .nil .nil) .nil)) (.node (o103 P) (.node (o167 P) (.node (o295 P) .nil .nil) .nil) (.node (o231 P) (.node (o359 P) .nil .nil) .nil))) (.node (o55 P) (.node (o87 P) (.node (o151 P) (.node (o279 P) .nil .nil) .nil) (.node (o215 P) (.node (o343 P) .nil .nil) .nil)) (.node (o119 P) (.node (o183 P) (.node (o311 P) .nil .nil) .nil) (.node (o247 P) .nil .nil))))) (.node (o11 P) (.node (o19 P) (.node (o35 P) (.node (o67 P) (.node (o131 P) (.node (o259 P) .nil .nil) .nil) (.node (o195 P) (.node (o323 P) .nil .nil) .nil)) (.node (o99 P) (.node (o163 P) (.node (o291 P) .nil .nil) .nil) (.node (o227 P) (.node (o355 P) .nil .nil) .nil))) (.node (o51 P) (.node (o83 P) (.node (o147 P) (.node (o275 P) .nil .nil) .nil) (.node (o211 P) (.node (o339 P) .nil .nil) .nil)) (.node (o115 P) (.node (o179 P) (.node (o307 P) .nil .nil) .nil) (.node (o243 P) .nil .nil)))) (.node (o27 P) (.node (o43 P) (.node (o75 P) (.node (o139 P) (.node (o267 P) .nil .nil) .nil) (.node (o203 P) (.node (o331 P) .nil .nil) .nil)) (.node (o107 P) (.node (o171 P) (.node (o299 P) .nil .nil) .nil) (.node (o235 P) (.node (o363 P) .nil .nil) .nil))) (.node (o59 P) (.node (o91 P) (.node (o155 P) (.node (o283 P) .nil .nil) .nil) (.node (o219 P) (.node (o347 P) .nil .nil) .nil)) (.node (o123 P) (.node (o187 P) (.node (o315 P) .nil .nil) .nil) (.node (o251 P) .nil .nil)))))) (.node (o5 P) (.node (o9 P) (.node (o17 P) (.node (o33 P) (.node (o65 P) (.node (o129 P) (.node (o257 P) .nil .nil) .nil) (.node (o193 P) (.node (o321 P) .nil .nil) .nil)) (.node (o97 P) (.node (o161 P) (.node (o289 P) .nil .nil) .nil) (.node (o225 P) (.node (o353 P) .nil .nil) .nil))) (.node (o49 P) (.node (o81 P) (.node (o145 P) (.node (o273 P) .nil .nil) .nil) (.node (o209 P) (.node (o337 P) .nil .nil) .nil)) (.node (o113 P) (.node (o177 P) (.node (o305 P) .nil .nil) .nil) (.node (o241 P) (.node (o369 P) .nil .nil) .nil)))) (.node (o25 P) (.node (o41 P) (.node (o73 P) (.node (o137 P) (.node (o265 P) .nil .nil) .nil) (.node (o201 P) (.node (o329 P) .nil .nil) .nil)) (.node (o105 P) (.node (o169 P) (.node (o297 P) .nil .nil) .nil) (.node (o233 P) (.node (o361 P) .nil .nil) .nil))) (.node (o57 P) (.node (o89 P) (.node (o153 P) (.node (o281 P) .nil .nil) .nil) (.node (o217 P) (.node (o345 P) .nil .nil) .nil)) (.node (o121 P) (.node (o185 P) (.node (o313 P) .nil .nil) .nil) (.node (o249 P) .nil .nil))))) (.node (o13 P) (.node (o21 P) (.node (o37 P) (.node (o69 P) (.node (o133 P) (.node (o261 P) .nil .nil) .nil) (.node (o197 P) (.node (o325 P) .nil .nil) .nil)) (.node (o101 P) (.node (o165 P) (.node (o293 P) .nil .nil) .nil) (.node (o229 P) (.node (o357 P) .nil .nil) .nil))) (.node (o53 P) (.node (o85 P) (.node (o149 P) (.node (o277 P) .nil .nil) .nil) (.node (o213 P) (.node (o341 P) .nil .nil) .nil)) (.node (o117 P) (.node (o181 P) (.node (o309 P) .nil .nil) .nil) (.node (o245 P) .nil .nil)))) (.node (o29_24 P) (.node (o45 P) (.node (o77 P) (.node (o141 P) (.node (o269 P) .nil .nil) .nil) (.node (o205 P) (.node (o333 P) .nil .nil) .nil)) (.node (o109 P) (.node (o173 P) (.node (o301 P) .nil .nil) .nil) (.node (o237 P) (.node (o365 P) .nil .nil) .nil))) (.node (o61 P) (.node (o93 P) (.node (o157 P) (.node (o285 P) .nil .nil) .nil) (.node (o221 P) (.node (o349 P) .nil .nil) .nil)) (.node (o125 P) (.node (o189 P) (.node (o317 P) .nil .nil) .nil) (.node (o253 P) .nil .nil))))))) (.node (o2 P) (.node (o4 P) (.node (o8 P) (.node (o16 P) (.node (o32 P) (.node (o64 P) (.node (o128 P) (.node (o256 P) .nil .nil) .nil) (.node (o192 P) (.node (o320 P) .nil .nil) .nil)) (.node (o96 P) (.node (o160 P) (.node (o288 P) .nil .nil) .nil) (.node (o224 P) (.node (o352 P) .nil .nil) .nil))) (.node (o48 P) (.node (o80 P) (.node (o144 P) (.node (o272 P) .nil .nil) .nil) (.node (o208 P) (.node (o336 P) .nil .nil) .nil)) (.node (o112 P) (.node (o176 P) (.node (o304 P) .nil .nil) .nil) (.node (o240 P) (.node (o368 P) .nil .nil) .nil)))) (.node (o24 P) (.node (o40 P) (.node (o72 P) (.node (o136 P) (.node (o264 P) .nil .nil) .nil) (.node (o200 P) (.node (o328 P) .nil .nil) .nil)) (.node (o104 P) (.node (o168 P) (.node (o296 P) .nil .nil) .nil) (.node (o232 P) (.node (o360 P) .nil .nil) .nil))) (.node (o56 P) (.node (o88 P) (.node (o152 P) (.node (o280 P) .nil .nil) .nil) (.node (o216 P) (.node (o344 P) .nil .nil) .nil)) (.node (o120 P) (.node (o184 P) (.node (o312 P) .nil .nil) .nil) (.node (o248 P) .nil .nil))))) (.node (o12 P) (.node (o20 P) (.node (o36 P) (.node (o68 P) (.node (o132 P) (.node (o260 P) .nil .nil) .nil) (.node (o196 P) (.node (o324 P) .nil .nil) .nil)) (.node (o100 P) (.node (o164 P) (.node (o292 P) .nil .nil) .nil) (.node (o228 P) (.node (o356 P) .nil .nil) .nil))) (.node (o52 P) (.node (o84 P) (.node (o148 P) (.node (o276 P) .nil .nil) .nil) (.node (o212 P) (.node (o340 P) .nil .nil) .nil)) (.node (o116 P) (.node (o180 P) (.node (o308 P) .nil .nil) .nil) (.node (o244 P) .nil .nil)))) (.node (o28 P) (.node (o44 P) (.node (o76 P) (.node (o140 P) (.node (o268 P) .nil .nil) .nil) (.node (o204 P) (.node (o332 P) .nil .nil) .nil)) (.node (o108 P) (.node (o172 P) (.node (o300 P) .nil .nil) .nil) (.node (o236 P) (.node (o364 P) .nil .nil) .nil))) (.node (o60 P) (.node (o92 P) (.node (o156 P) (.node (o284 P) .nil .nil) .nil) (.node (o220 P) (.node (o348 P) .nil .nil) .nil)) (.node (o124 P) (.node (o188 P) (.node (o316 P) .nil .nil) .nil) (.node (o252 P) .nil .nil)))))) (.node (o6 P) (.node (o10 P) (.node (o18 P) (.node (o34 P) (.node (o66 P) (.node (o130 P) (.node (o258 P) .nil .nil) .nil) (.node (o194 P) (.node (o322 P) .nil .nil) .nil)) (.node (o98 P) (.node (o162 P) (.node (o290 P) .nil .nil) .nil) (.node (o226 P) (.node (o354 P) .nil .nil) .nil))) (.node (o50 P) (.node (o82 P) (.node (o146 P) (.node (o274 P) .nil .nil) .nil) (.node (o210 P) (.node (o338 P) .nil .nil) .nil)) (.node (o114 P) (.node (o178 P) (.node (o306 P) .nil .nil) .nil) (.node (o242 P) (.node (o370 P) .nil .nil) .nil)))) (.node (o26 P) (.node (o42 P) (.node (o74 P) (.node (o138 P) (.node (o266 P) .nil .nil) .nil) (.node (o202 P) (.node (o330 P) .nil .nil) .nil)) (.node (o106 P) (.node (o170 P) (.node (o298 P) .nil .nil) .nil) (.node (o234 P) (.node (o362 P) .nil .nil) .nil))) (.node (o58 P) (.node (o90 P) (.node (o154 P) (.node (o282 P) .nil .nil) .nil) (.node (o218 P) (.node (o346 P) .nil .nil) .nil)) (.node (o122 P) (.node (o186 P) (.node (o314 P) .nil .nil) .nil) (.node (o250 P) .nil .nil))))) (.node (o14 P) (.node (o22 P) (.node (o38 P) (.node (o70 P) (.node (o134 P) (.node (o262 P) .nil .nil) .nil) (.node (o198 P) (.node (o326 P) .nil .nil) .nil)) (.node (o102 P) (.node (o166 P) (.node (o294 P) .nil .nil) .nil) (.node (o230 P) (.node (o358 P) .nil .nil) .nil))) (.node (o54 P) (.node (o86 P) (.node (o150 P) (.node (o278 P) .nil .nil) .nil) (.node (o214 P) (.node (o342 P) .nil .nil) .nil)) (.node (o118 P) (.node (o182 P) (.node (o310 P) .nil .nil) .nil) (.node (o246 P) .nil .nil)))) (.node (o30 P) (.node (o46 P) (.node (o78 P) (.node (o142 P) (.node (o270 P) .nil .nil) .nil) (.node (o206 P) (.node (o334 P) .nil .nil) .nil)) (.node (o110 P) (.node (o174 P) (.node (o302 P) .nil .nil) .nil) (.node (o238 P) (.node (o366 P) .nil .nil) .nil))) (.node (o62 P) (.node (o94 P) (.node (o158 P) (.node (o286 P) .nil .nil) .nil) (.node (o222 P) (.node (o350 P) .nil .nil) .nil)) (.node (o126 P) (.node (o190 P) (.node (o318 P) .nil .nil) .nil) (.node (o254 P) .nil .nil))))))))
noncomputable def S24 (w : World) (os : OsState) : SharedT := ⟨T24 w.params, 371, {}, ⟨[]⟩, ⟨0, 0, 0, 0⟩, 2735, os⟩
noncomputable def T99 (P : Params) : BT := (.node (o0 P) (.node (o1 P) (.node (o3_9 P) (.node (o7 P) (.node (o15 P) (.node (o31 P) (.node (o63 P) (.node (o127 P) .nil .nil) .nil) (.node (o95 P) (.node (o159 P) .nil .nil) .nil)) (.node (o47 P) (.node (o79 P) (.node (o143 P) .nil .nil) .nil) (.node (o111 P) (.node (o175 P) .nil .nil) .nil))) (.node (o23 P) (.node (o39 P) (.node (o71 P) (.node (o135 P) .nil .nil) .nil) (.node (o103 P) (.node (o167 P) .nil .nil) .nil)) (.node (o55 P) (.node (o87 P) (.node (o151 P) .nil .nil) .nil) (.node (o119 P) .nil .nil)))) (.node (o11 P) (.node (o19 P) (.node (o35 P) (.node (o67 P) (.node (o131 P) .nil .nil) .nil) (.node (o99 P) (.node (o163 P) .nil .nil) .nil)) (.node (o51 P) (.node (o83 P) (.node (o147 P) .nil .nil) .nil) (.node (o115 P) (.node (o179 P) .nil .nil) .nil))) (.node (o27 P) (.node (o43 P) (.node (o75 P) (.node (o139 P) .nil .nil) .nil) (.node (o107 P) (.node (o171 P) .nil .nil) .nil)) (.node (o59 P) (.node (o91 P) (.node (o155 P) .nil .nil) .nil) (.node (o123 P) .nil .nil))))) (.node (o5 P) (.node (o9 P) (.node (o17 P) (.node (o33 P) (.node (o65 P) (.node (o129 P) .nil .nil) .nil) (.node (o97 P) (.node (o161 P) .nil .nil) .nil)) (.node (o49 P) (.node (o81 P) (.node (o145 P) .nil .nil) .nil) (.node (o113 P) (.node (o177 P) .nil .nil) .nil))) (.node (o25 P) (.node (o41 P) (.node (o73 P) (.node (o137 P) .nil .nil) .nil) (.node (o105 P) (.node (o169 P) .nil .nil) .nil)) (.node (o57 P) (.node (o89 P) (.node (o153 P) .nil .nil) .nil) (.node (o121 P) .nil .nil)))) (.node (o13 P) (.node (o21 P) (.node (o37 P) (.node (o69 P) (.node (o133 P) .nil .nil) .nil) (.node (o101 P) (.node (o165 P) .nil .nil) .nil)) (.node (o53 P) (.node (o85 P) (.node (o149 P) .nil .nil) .nil) (.node (o117 P) .nil .nil))) (.node (o29_9 P) (.node (o45 P) (.node (o77 P) (.node (o141 P) .nil .nil) .nil) (.node (o109 P) (.node (o173 P) .nil .nil) .nil)) (.node (o61 P) (.node (o93 P) (.node (o157 P) .nil .nil) .nil) (.node (o125 P) .nil .nil)))))) (.node (o2 P) (.node (o4 P) (.node (o8 P) (.node (o16 P) (.node (o32 P) (.node (o64 P) (.node (o128 P) .nil .nil) .nil) (.node (o96 P) (.node (o160 P) .nil .nil) .nil)) (.node (o48 P) (.node (o80 P) (.node (o144 P) .nil .nil) .nil) (.node (o112 P) (.node (o176 P) .nil .nil) .nil))) (.node (o24 P) (.node (o40 P) (.node (o72 P) (.node (o136 P) .nil .nil) .nil) (.node (o104 P) (.node (o168 P) .nil .nil) .nil)) (.node (o56 P) (.node (o88 P) (.node (o152 P) .nil .nil) .nil) (.node (o120 P) .nil .nil)))) (.node (o12 P) (.node (o20 P) (.node (o36 P) (.node (o68 P) (.node (o132 P) .nil .nil) .nil) (.node (o100 P) (.node (o164 P) .nil .nil) .nil)) (.node (o52 P) (.node (o84 P) (.node (o148 P) .nil .nil) .nil) (.node (o116 P) .nil .nil))) (.node (o28 P) (.node (o44 P) (.node (o76 P) (.node (o140 P) .nil .nil) .nil) (.node (o108 P) (.node (o172 P) .nil .nil) .nil)) (.node (o60 P) (.node (o92 P) (.node (o156 P) .nil .nil) .nil) (.node (o124 P) .nil .nil))))) (.node (o6 P) (.node (o10 P) (.node (o18 P) (.node (o34 P) (.node (o66 P) (.node (o130 P) .nil .nil) .nil) (.node (o98 P) (.node (o162 P) .nil .nil) .nil)) (.node (o50 P) (.node (o82 P) (.node (o146 P) .nil .nil) .nil) (.node (o114 P) (.node (o178 P) .nil .nil) .nil))) (.node (o26 P) (.node (o42 P) (.node (o74 P) (.node (o138 P) .nil .nil) .nil) (.node (o106 P) (.node (o170 P) .nil .nil) .nil)) (.node (o58 P) (.node (o90 P) (.node (o154 P) .nil .nil) .nil) (.node (o122 P) .nil .nil)))) (.node (o14 P) (.node (o22 P) (.node (o38 P) (.node (o70 P) (.node (o134 P) .nil .nil) .nil) (.node (o102 P) (.node (o166 P) .nil .nil) .nil)) (.node (o54 P) (.node (o86 P) (.node (o150 P) .nil .nil) .nil) (.node (o118 P) .nil .nil))) (.node (o30 P) (.node (o46 P) (.node (o78 P) (.node (o142 P) .nil .nil) .nil) (.node (o110 P) (.node (o174 P) .nil .nil) .nil)) (.node (o62 P) (.node (o94 P) (.node (o158 P) .nil .nil) .nil) (.node (o126 P) .nil .nil)))))))
noncomputable def S99 (w : World) (os : OsState) : SharedT := ⟨T99 w.params, 180, {}, ⟨[]⟩, ⟨0, 0, 0, 0⟩, 2407, os⟩
noncomputable def T98 (P : Params) : BT := (.node (o0 P) (.node (o1 P) (.node (o3 P) (.node (o7 P) (.node (o15 P) .nil .nil) (.node (o23 P) .nil .nil)) (.node (o11_e P) (.node (o19 P) .nil .nil) (.node (o27 P) .nil .nil))) (.node (o5 P) (.node (o9 P) (.node (o17 P) .nil .nil) (.node (o25 P) .nil .nil)) (.node (o13 P) (.node (o21 P) .nil .nil) .nil))) (.node (o2 P) (.node (o4 P) (.node (o8 P) (.node (o16 P) .nil .nil) (.node (o24 P) .nil .nil)) (.node (o12 P) (.node (o20 P) .nil .nil) .nil)) (.node (o6 P) (.node (o10 P) (.node (o18 P) .nil .nil) (.node (o26 P) .nil .nil)) (.node (o14 P) (.node (o22 P) .nil .nil) .nil))))
noncomputable def S98 (w : World) (os : OsState) : SharedT := ⟨T98 w.params, 28, {}, ⟨[]⟩, ⟨0, 0, 0, 0⟩, 276, os⟩
noncomputable abbrev bodyP : List Stmt := behindTheImports PW
noncomputable def envP : Env := { scope := PW.main.scope, locals := mainNs, globals := mainNs, cells := [], code := .ref 30, frame := some 31 }
noncomputable abbrev codeP : Code := .body bodyP envP
noncomputable abbrev frP : List Frame := [topFrame ⟨0, 0, 0, 0⟩]
noncomputable abbrev annP : Option Value := some (.ref 6)
noncomputable abbrev tbQ := PySem.W.Fast.tw14364793385576792824
noncomputable abbrev segRunQ := PySem.W.Fast.tw10110043849684766642
end Mine
end
noncomputable section
open PySem PySem.W PyProof.Rows
set_option maxRecDepth 100000
namespace Mine
noncomputable abbrev segG (w : World) := segGo treeTable PW w 28 annP 1
theorem segGo_trans {tb : String → Option Builtin} {p : Program} {w : World} {n₀ : Nat} {ann : Option Value} {b : Nat} : ∀ {n m : Nat} {s s₁ s₂ : Shared} {t t₁ t₂ : Thread},
    segGo tb p w n₀ ann b n s t = some (s₁, t₁) → segGo tb p w n₀ ann b m s₁ t₁ = some (s₂, t₂) → segGo tb p w n₀ ann b (n + m) s t = some (s₂, t₂)
  | 0, m, s, s₁, s₂, t, t₁, t₂, h, k => by cases h; rw [Nat.zero_add]; exact k
  | n + 1, m, s, s₁, s₂, t, t₁, t₂, h, k => by
    rw [show n + 1 + m = (n + m) + 1 by omega]
    unfold segGo at h ⊢
    cases he : endAt b t with
    | some f => rw [he] at h; cases h
    | none =>
      rw [he] at h
      cases hk : stepOk n₀ ann t with
      | false => rw [hk] at h; cases h
      | true =>
        rw [hk] at h
        cases hs : step (denote tb) p w s t with
        | halt o s' => rw [hs] at h; cases h
        | go s' t' => rw [hs] at h; exact segGo_trans h k
theorem segGo_one {tb : String → Option Builtin} {p : Program} {w : World} {n₀ : Nat} {ann : Option Value} {b n : Nat} {s s₁ s₂ : Shared} {t t₁ t₂ : Thread}
    (he : endAt b t = none) (hk : stepOk n₀ ann t = true) (hs : step (denote tb) p w s t = .go s₁ t₁) (h : segGo tb p w n₀ ann b n s₁ t₁ = some (s₂, t₂)) :
    segGo tb p w n₀ ann b (n + 1) s t = some (s₂, t₂) := by
  unfold segGo
  rw [he, hk, hs]
  exact h
def Act (w : World) (n : Nat) {α : Type} (X : Sem α) (s : Shared) (a : α) (s' : Shared) : Prop :=
  ∀ (K : α → Sem Fin) (H : Value → Sem Fin) (gd : Bool → Bool) (lv : List Value → List Value) (pos : Pos), ∃ pos', segG w n s ⟨X.wrap K H gd lv, codeP, pos, frP⟩ = some (s', ⟨K a, codeP, pos', frP⟩)
section
variable {w : World} {α β : Type} {s s₁ s₂ : Shared} {a : α} {b : β} {n m : Nat}
theorem Act.pure : Act w 0 (.pure a) s a s := fun _ _ _ _ pos => ⟨pos, rfl⟩
theorem Act.eqn {X : Sem α} (h : Act w n X s a s₁) (e : n = m) : Act w m X s a s₁ := e ▸ h
theorem Act.keep {X : Sem α} {vs : List Value} (h : Act w n X s a s₁) : Act w n (X.keep vs) s a s₁ := by
  intro K H gd lv pos
  rw [Sem.keep_eq_wrap, Sem.wrap_wrap]
  exact h _ _ _ _ _
theorem Act.holding {X : Sem α} {vs : List Value} (h : Act w n X s a s₁) : Act w n (holding vs X) s a s₁ := by
  unfold PySem.holding
  split
  · exact h
  · exact h.keep
theorem Act.onRaise {X : Sem α} {f : Value → Sem Unit} (h : Act w n X s a s₁) : Act w n (X.onRaise f) s a s₁ := by
  intro K H gd lv pos
  rw [Sem.onRaise_eq_wrap, Sem.wrap_wrap]
  exact h _ _ _ _ _
theorem Act.bind {X : Sem α} {f : α → Sem β} (h : Act w n X s a s₁) (k : Act w m (f a) s₁ b s₂) : Act w (m + n) (X.bind f) s b s₂ := by
  intro K H gd lv pos
  rw [Sem.bind_eq_wrap, Sem.wrap_wrap, Nat.add_comm]
  obtain ⟨p₁, h⟩ := h (fun a => (f a).wrap K H gd lv) (fun e => (Sem.raise e : Sem β).wrap K H gd lv) gd lv pos
  obtain ⟨p₂, k⟩ := k K H gd lv p₁
  exact ⟨p₂, segGo_trans h k⟩
theorem Act.bind' {X : Sem α} {f : α → Sem β} (h : Act w n X s a s₁) (k : Act w m (f a) s₁ b s₂) : Act w (m + n) (X >>= f) s b s₂ := Act.bind h k
theorem Act.load {d : Addr} {p : Option Value} {o : Obj} {k : Obj → Sem α} (ho : s.heap.get? d = some o) (h : Act w n (k o) s a s₁) : Act w (n + 1) (.load d p k) s a s₁ := by
  intro K H gd lv pos
  obtain ⟨p', h⟩ := h K H gd lv pos
  refine ⟨p', ?_⟩
  refine segGo_one rfl rfl ?_ h
  obtain ⟨heap, gens, drawn, toks, os⟩ := s
  simp only [Sem.wrap, step, show heap.get? d = some o from ho]
theorem Act.fresh {k : Tok → Sem α} (h : Act w n (k s.toks) { s with toks := s.toks + 1 } a s₁) : Act w (n + 1) (.fresh k) s a s₁ := by
  intro K H gd lv pos
  obtain ⟨p', h⟩ := h K H gd lv pos
  exact ⟨p', segGo_one rfl rfl rfl h⟩
theorem Act.ask {k : Setting → Sem α} (h : Act w n (k ⟨PW, w.params⟩) s a s₁) : Act w (n + 1) (.ask k) s a s₁ := by
  intro K H gd lv pos
  obtain ⟨p', h⟩ := h K H gd lv pos
  exact ⟨p', segGo_one rfl rfl rfl h⟩
theorem Act.rule {t : String} {k : Unit → Sem α} (h : Act w n (k ()) s a s₁) : Act w (n + 1) (.rule t k) s a s₁ := by
  intro K H gd lv pos
  obtain ⟨p', h⟩ := h K H gd lv pos
  exact ⟨p', segGo_one rfl rfl rfl h⟩
theorem Act.at {t : Pos} {k : Unit → Sem α} (h : Act w n (k ()) s a s₁) : Act w (n + 1) (.at t k) s a s₁ := by
  intro K H gd lv pos
  obtain ⟨p', h⟩ := h K H gd lv t
  exact ⟨p', segGo_one rfl rfl rfl h⟩
theorem Act.alloc {o : Obj} {k : Addr → Sem α} (h : Act w n (k s.heap.objs.size) { s with heap := s.heap.push o } a s₁) : Act w (n + 1) (.alloc o k) s a s₁ := by
  intro K H gd lv pos
  obtain ⟨p', h⟩ := h K H gd lv pos
  exact ⟨p', segGo_one rfl rfl rfl h⟩
theorem Act.update {d : Addr} {p : Option Value} {g : Obj → Obj} {k : Unit → Sem α} {o : Obj} (hd : 28 ≤ d) (ho : s.heap.get? d = some o)
    (h : Act w n (k ()) { s with heap := s.heap.update d g } a s₁) : Act w (n + 1) (.update d p g k) s a s₁ := by
  intro K H gd lv pos
  obtain ⟨p', h⟩ := h K H gd lv pos
  refine ⟨p', ?_⟩
  refine segGo_one rfl ?_ ?_ h
  · show (Thread.calm _ && (Nat.ble 28 d || d == mainNs || d == cStatics || annP == some (.ref d))) = true
    rw [show Nat.ble 28 d = true from Nat.ble_eq_true_of_le hd]
    rfl
  · obtain ⟨heap, gens, drawn, toks, os⟩ := s
    simp only [Sem.wrap, step, show heap.get? d = some o from ho, Option.isSome_some, if_true]
end
def hashN (k : Int) : Int := let h : Int := k.natAbs % (2 ^ 61 - 1 : Nat); let h := if k < 0 then -h else h; (if h == -1 then -2 else h)
end Mine
end
noncomputable section
open PySem PySem.W PyProof.Rows
set_option maxRecDepth 100000
namespace Mine
theorem hash_run (w : World) (h : Heap) (g : Array GenState) (d : Drawn) (t : Nat) (os : OsState) (k : Int) (u : Tok) (K : Result → Sem Fin) (gd : Bool) (l : List Value) (pos : Pos) :
    PySem.W.Fast.tw3277212676724774461 tbQ PW w 28 annP 1 4 ⟨h, g, d, t, os⟩ ⟨.call (.call (.builtin "int.__hash__") ⟨[.int k u], []⟩) none gd l K, codeP, pos, frP⟩ = some (⟨h, g, d, t + 1, os⟩, ⟨K (.ok (.ret (.int (hashN k) t))), codeP, pos, frP⟩) := by kernel_rfl
theorem segG_eq (w : World) : segG w = PySem.W.Fast.tw3277212676724774461 tbQ PW w 28 annP 1 := by
  unfold segG
  rw [PySem.W.Fast.te3277212676724774461, PySem.W.Fast.te14364793385576792824]
section
variable {w : World} {α β : Type} {s s₁ s₂ : Shared} {a : α} {b : β}
theorem act_hashcall {k : Int} {u : Tok} : Act w 4 (PySem.call (.builtin "int.__hash__") [.int k u]) s (.int (hashN k) s.toks) { s with toks := s.toks + 1 } := by
  refine fun K H gd lv pos => ⟨pos, ?_⟩
  rw [segG_eq]
  obtain ⟨h, g, d, t, os⟩ := s
  exact hash_run w h g d t os k u (fun r => (((match r with | .ok f => .pure f | .error e => .raise e : Sem Flow).bind fun f => match f with | .ret v => (.pure v : Sem Value) | _ => unsupported "internal:call-without-return-value")).wrap K H gd lv) (gd false) (lv []) pos
theorem special_int (k : Int) (u : Tok) : specialOf (.int k u) "__hash__" = .pure (some (.builtin "int.__hash__")) := by
  show typeLookup (.type "int") "__hash__" = _
  exact slot_int_hash.lookup
theorem act_bindHash {k : Int} {u : Tok} : Act w 1 (bindSpecialIfBound? (.int k u) "__hash__") s (some (.builtin "int.__hash__", [.int k u])) s := by
  unfold bindSpecialIfBound?
  rw [special_int]
  refine Act.bind' .pure (Act.bind' (Act.ask .pure) ?_)
  dsimp only
  rw [slot_int_hash.bind]
  split
  · exact Act.bind' .pure .pure
  · exact .pure
theorem hashN_small {k : Int} (h0 : 0 ≤ k) (h1 : k < 2 ^ 60) : hashN k = k := by
  unfold hashN
  have e : (k.natAbs : Int) % ((2 ^ 61 - 1 : Nat) : Int) = k := by
    rw [Int.natAbs_of_nonneg h0]
    exact Int.emod_eq_of_lt h0 (by omega)
  rw [e]
  simp only [if_neg (show ¬ k < 0 by omega)]
  rw [if_neg]
  simp; omega
theorem act_pyHash {k : Int} {u : Tok} (h0 : 0 ≤ k) (h1 : k < 2 ^ 60) : Act w 5 (pyHash (.int k u)) s k { s with toks := s.toks + 1 } := by
  show Act w 5 (pyHashByItsType (.int k u)) _ _ _
  unfold pyHashByItsType
  have hv : cRoomFor "hash" [Value.int k u] = .pure () := by
    unfold cRoomFor
    rw [if_neg (by rw [show [Value.int k u].any Value.onHeap = false from rfl]; exact Bool.false_ne_true)]
    rfl
  rw [hv, special_int]
  refine Act.bind' .pure (Act.bind' .pure ?_)
  rw [if_neg (by rw [beq_builtin_none]; exact Bool.false_ne_true)]
  refine Act.bind' .pure ?_
  rw [if_neg (by decide)]
  refine Act.bind' (a := some (Value.int k s.toks)) (s₁ := { s with toks := s.toks + 1 }) (n := 5) (m := 0) ?_ ?_
  · unfold callSpecialIfBoundUnlessNone?
    refine Act.holding (Act.bind' act_bindHash ?_)
    dsimp only
    rw [if_neg (by decide)]
    refine Act.bind' act_hashcall ?_
    rw [hashN_small h0 h1]
    exact .pure
  · dsimp only
    unfold pyHashByItsType.reduced
    rw [if_pos (by simp; omega), if_neg (by simp; omega)]
    exact .pure
theorem update_same {h : Heap} {d : Addr} {o o' : Obj} {f : Obj → Obj} (ho : h.get? d = some o) (hf : f o = o') : h.update d f = h.update d fun _ => o' := by
  obtain ⟨objs, life⟩ := h
  show Heap.mk (objs.modify d f) life = Heap.mk (objs.modify d fun _ => o') life
  congr 1
  apply Array.ext_getElem?
  intro i
  rw [Array.getElem?_modify, Array.getElem?_modify]
  by_cases hi : d = i
  · subst hi
    have q : objs[d]? = some o := by
      unfold Heap.get? at ho
      split at ho
      · cases ho
      · exact ho
    simp [q, hf]
  · simp [hi]
theorem update_update {h : Heap} {d : Addr} {o o' : Obj} : (h.update d fun _ => o).update d (fun _ => o') = h.update d fun _ => o' := by
  obtain ⟨objs, life⟩ := h
  show Heap.mk ((objs.modify d fun _ => o).modify d fun _ => o') life = Heap.mk (objs.modify d fun _ => o') life
  congr 1
  apply Array.ext_getElem?
  intro i
  rw [Array.getElem?_modify, Array.getElem?_modify, Array.getElem?_modify]
  by_cases hi : d = i
  · subst hi; cases objs[d]? <;> simp
  · simp [hi]
theorem push_update {h : Heap} {o o' : Obj} : (h.push o).update h.objs.size (fun _ => o') = h.push o' := by
  obtain ⟨objs, life⟩ := h
  show Heap.mk ((objs.push o).modify objs.size fun _ => o') life = Heap.mk (objs.push o') life
  congr 1
  apply Array.ext_getElem?
  intro i
  rw [Array.getElem?_modify, Array.getElem?_push, Array.getElem?_push]
  by_cases hi : objs.size = i
  · subst hi; simp
  · simp [hi, Ne.symm hi]
theorem places_none {es : Array DictEntry} {k : Int} (h : ∀ e ∈ es, e.hash ≠ k) : placesWithHash es.size (fun i => es[i]?.map (·.hash)) k = [] := by
  rw [PySem.Fast.places_eq]
  have all : ∀ n i, PySem.Fast.placesFrom (fun i => es[i]?.map (·.hash)) k n i = [] := by
    intro n
    induction n with
    | zero => intro i; rfl
    | succ n ih =>
      intro i
      unfold PySem.Fast.placesFrom
      rw [if_neg, ih]
      intro q
      cases hi : es[i]? with
      | none => rw [hi] at q; cases q
      | some e => rw [hi] at q; exact h e (Array.mem_of_getElem? hi) (by simpa using q)
  exact all _ _
theorem act_entries {d : Addr} {p : Option Value} {es : List DictEntry} {n : Nat} (ho : s.heap.get? d = some (dictO es n)) : Act w 1 (dictEntries d p) s ⟨es⟩ s := by
  unfold dictEntries
  exact Act.bind' (Act.load ho .pure) .pure
theorem act_epoch {d : Addr} {p : Option Value} {es : List DictEntry} {n : Nat} (ho : s.heap.get? d = some (dictO es n)) : Act w 1 (dictEpoch d p) s n s := by
  unfold dictEpoch
  exact Act.bind' (Act.load ho .pure) .pure
theorem act_find {d : Addr} {es : List DictEntry} {n : Nat} {k : Int} {u : Tok} (ho : s.heap.get? d = some (dictO es n)) (hk : ∀ e ∈ es, e.hash ≠ k) : Act w 1 (dictFind d (.int k u) k) s none s := by
  unfold dictFind
  refine Act.holding (Act.bind' (act_entries ho) ?_)
  dsimp only
  rw [places_none (es := ⟨es⟩) (fun e he => hk e (by simpa using he))]
  simp only [List.filterMap_nil, List.all_cons, List.all_nil, carriedByValue, Bool.and_self, if_true]
  unfold dictWalkPlain
  simp only [List.forIn_nil]
  exact Act.bind' .pure .pure
theorem act_grow {d : Addr} {p : Option Value} {es : List DictEntry} {n : Nat} {e : DictEntry} (hd : 28 ≤ d) (ho : s.heap.get? d = some (dictO es n)) (hz : es.length ≤ 100000) :
    Act w 3 (updateDictKeys d (·.push e) p) s () { s with heap := s.heap.update d fun _ => dictO (es ++ [e]) (n + 1) } := by
  unfold updateDictKeys
  refine Act.bind' (Act.load ho .pure) ?_
  dsimp only
  have same : s.heap.update d (Obj.mapDictKeys (·.push e)) = s.heap.update d fun _ => dictO (es ++ [e]) (n + 1) := by
    exact update_same ho (by simp [Obj.mapDictKeys, dictO])
  refine Act.bind' (Act.update hd ho .pure) ?_
  rw [same]
  unfold lookBehind
  refine Act.bind' (Act.load (o := dictO (es ++ [e]) (n + 1)) (Heap.get?_update_self _ ho rfl) .pure) ?_
  simp only [Data.pastItsLine]
  rw [if_neg (by simp only [sizeLine, List.size_toArray, List.length_append, List.length_cons, List.length_nil]; omega)]
  exact .pure
end
end Mine
end
noncomputable section
open PySem PySem.W PyProof.Rows
set_option maxRecDepth 100000
namespace Mine
section
variable {w : World} {α β : Type} {s s₁ s₂ : Shared} {a : α} {b : β}
theorem update_id {h : Heap} {d : Addr} {o : Obj} (ho : h.get? d = some o) : (h.update d fun _ => o) = h := by
  obtain ⟨objs, life⟩ := h
  show Heap.mk (objs.modify d fun _ => o) life = Heap.mk objs life
  congr 1
  apply Array.ext_getElem?
  intro i
  rw [Array.getElem?_modify]
  by_cases hi : d = i
  · subst hi
    have q : objs[d]? = some o := by
      unfold Heap.get? at ho
      split at ho
      · cases ho
      · exact ho
    simp [q]
  · simp [hi]
theorem act_set {d : Addr} {es : List DictEntry} {n : Nat} {k : Int} {u : Tok} {v : Value} (hd : 28 ≤ d) (ho : s.heap.get? d = some (dictO es n)) (hk : ∀ e ∈ es, e.hash ≠ k) (h0 : 0 ≤ k) (h1 : k < 2 ^ 60) (hz : es.length ≤ 100000) :
    Act w 10 (dictSet d (.int k u) v) s () { s with heap := s.heap.update d fun _ => dictO (es ++ [⟨k, .int k u, v⟩]) (n + 1), toks := s.toks + 1 } := by
  unfold dictSet
  refine Act.holding (Act.bind' (act_pyHash h0 h1) ?_)
  unfold dictSetHashed
  refine Act.holding (Act.bind' (act_find (s := { s with toks := s.toks + 1 }) ho hk) ?_)
  dsimp only
  exact Act.bind' (Act.rule .pure) (act_grow (s := { s with toks := s.toks + 1 }) hd ho hz)
theorem act_mkInt {i : Int} : Act w 1 (mkInt i) s (Value.int i s.toks) { s with toks := s.toks + 1 } := Act.bind' (Act.fresh .pure) .pure
theorem act_mkText {x : Str} : Act w 1 (mkText x) s (Value.str x s.toks) { s with toks := s.toks + 1 } := Act.bind' (Act.fresh .pure) .pure
def prI (p : Pos) (kv : Int × Str) : Sem Value × Sem Value := (mkInt kv.1, do let x ← mkText kv.2; standAt p; pure x)
structure Fine (es : List DictEntry) (kvs : List (Int × Str)) : Prop where
  lo : ∀ kv ∈ kvs, 0 ≤ kv.1 ∧ kv.1 < 2 ^ 60
  new : ∀ kv ∈ kvs, ∀ e ∈ es, e.hash ≠ kv.1
  nd : (kvs.map (·.1)).Nodup
  len : es.length + kvs.length ≤ 100000
theorem Fine.step {es : List DictEntry} {kv : Int × Str} {r : List (Int × Str)} {u v : Value} (h : Fine es (kv :: r)) : Fine (es ++ [⟨kv.1, u, v⟩]) r := by
  have nd := h.nd
  simp only [List.map_cons, List.nodup_cons, List.mem_map] at nd
  refine ⟨fun x hx => h.lo x (.tail _ hx), fun x hx e he => ?_, nd.2, ?_⟩
  · rcases List.mem_append.mp he with q | q
    · exact h.new x (.tail _ hx) e q
    · cases List.mem_singleton.mp q
      intro z
      exact nd.1 ⟨x, hx, z.symm⟩
  · have := h.len
    simp only [List.length_cons, List.length_append, List.length_nil] at this ⊢
    omega
theorem act_subLoop {d : Addr} (hd : 28 ≤ d) (p : Pos) (f : Sem Value × Sem Value → PUnit → Sem (ForInStep PUnit))
    (hf : ∀ kv u, f (prI p kv) u = ((prI p kv).1 >>= fun kvv => holding [kvv] (prI p kv).2 >>= fun vv => holding [kvv, vv] (dictSet d kvv vv) >>= fun _ => pure (.yield ⟨⟩))) :
    ∀ (kvs : List (Int × Str)) (es : List DictEntry) (n : Nat) (s : Shared), s.heap.get? d = some (dictO es n) → Fine es kvs →
      Act w (13 * kvs.length) (forIn (kvs.map (prI p)) ⟨⟩ f) s ⟨⟩ { s with heap := s.heap.update d fun _ => dictO (es ++ entL s.toks kvs) (n + kvs.length), toks := s.toks + 3 * kvs.length }
  | [], es, n, s, ho, F => by
    simp only [List.map_nil, List.forIn_nil, entL, List.append_nil, List.length_nil, Nat.add_zero, Nat.mul_zero]
    rw [update_id ho]
    exact .pure
  | kv :: r, es, n, s, ho, F => by
    rw [List.map_cons, List.forIn_cons, hf]
    have hl := F.len
    simp only [List.length_cons] at hl
    have lo := F.lo kv (.head _)
    rw [List.length_cons]
    refine Act.eqn ?_ (show 13 * r.length + 13 = 13 * (r.length + 1) by omega)
    refine Act.bind' (n := 13) (m := 13 * r.length) (a := .yield ⟨⟩) (s₁ := { s with heap := s.heap.update d fun _ => dictO (es ++ [⟨kv.1, .int kv.1 s.toks, .str kv.2 (s.toks + 1)⟩]) (n + 1), toks := s.toks + 3 }) ?_ ?_
    · refine Act.eqn ?_ (show ((0 + 10) + ((0 + 1) + 1)) + 1 = 13 from rfl)
      refine Act.bind' (X := mkInt kv.1) act_mkInt ?_
      refine Act.bind' (Act.holding (Act.bind' (X := mkText kv.2) act_mkText (Act.bind' (f := fun _ => Sem.pure _) (Act.at .pure) .pure))) ?_
      exact Act.bind' (Act.holding (act_set (s := { s with toks := s.toks + 1 + 1 }) hd ho (F.new kv (.head _)) lo.1 lo.2 (by omega))) .pure
    · dsimp only
      have ih := act_subLoop hd p f hf r _ (n + 1) { s with heap := s.heap.update d fun _ => dictO (es ++ [⟨kv.1, .int kv.1 s.toks, .str kv.2 (s.toks + 1)⟩]) (n + 1), toks := s.toks + 3 } (Heap.get?_update_self _ ho rfl) F.step
      dsimp only at ih
      rw [update_update] at ih
      simp only [entL]
      rw [show n + (r.length + 1) = n + 1 + r.length by omega, show s.toks + 3 * (r.length + 1) = s.toks + 3 + 3 * r.length by omega]
      rw [show es ++ ({ hash := kv.1, key := .int kv.1 s.toks, val := .str kv.2 (s.toks + 1) } :: entL (s.toks + 3) r : List DictEntry) = es ++ [{ hash := kv.1, key := .int kv.1 s.toks, val := .str kv.2 (s.toks + 1) }] ++ entL (s.toks + 3) r by simp]
      exact ih
def vals2 : Nat → List (Int × Str) → List (Value × Value)
  | _, [] => []
  | t, kv :: r => (.int kv.1 t, .str kv.2 (t + 1)) :: vals2 (t + 2) r
theorem act_pairs (p : Pos) : ∀ (kvs : List (Int × Str)) (s : Shared), Act w (3 * kvs.length) (evalPairs (kvs.map (prI p))) s (vals2 s.toks kvs) { s with toks := s.toks + 2 * kvs.length }
  | [], s => .pure
  | kv :: r, s => by
    rw [List.map_cons]
    rw [List.length_cons]
    refine Act.eqn ?_ (show ((0 + 3 * r.length) + ((0 + 1) + 1)) + 1 = 3 * (r.length + 1) by omega)
    show Act w _ ((prI p kv).1 >>= fun kvv => holding [kvv] (prI p kv).2 >>= fun vv => holding [kvv, vv] (evalPairs (r.map (prI p))) >>= fun l => pure ((kvv, vv) :: l)) _ _ _
    refine Act.bind' (X := mkInt kv.1) act_mkInt ?_
    refine Act.bind' (Act.holding (Act.bind' (X := mkText kv.2) act_mkText (Act.bind' (f := fun _ => Sem.pure _) (Act.at .pure) .pure))) ?_
    refine Act.bind' (Act.holding (act_pairs p r { s with toks := s.toks + 1 + 1 })) ?_
    rw [show s.toks + 2 * (r.length + 1) = s.toks + 1 + 1 + 2 * r.length by omega]
    exact .pure
theorem act_setLoop {d : Addr} (hd : 28 ≤ d) (f : Value × Value → PUnit → Sem (ForInStep PUnit)) (hf : ∀ x u, f x u = (dictSet d x.1 x.2 >>= fun _ => pure (.yield ⟨⟩))) :
    ∀ (kvs : List (Int × Str)) (t : Nat) (es : List DictEntry) (n : Nat) (s : Shared), s.heap.get? d = some (dictO es n) → Fine es kvs →
      Act w (10 * kvs.length) (forIn (vals2 t kvs) ⟨⟩ f) s ⟨⟩ { s with heap := s.heap.update d fun _ => dictO (es ++ entS t kvs) (n + kvs.length), toks := s.toks + kvs.length }
  | [], t, es, n, s, ho, F => by
    simp only [vals2, List.forIn_nil, entS, List.append_nil, List.length_nil, Nat.add_zero]
    rw [update_id ho]
    exact .pure
  | kv :: r, t, es, n, s, ho, F => by
    simp only [vals2]
    rw [List.forIn_cons, hf]
    have hl := F.len
    simp only [List.length_cons] at hl
    have lo := F.lo kv (.head _)
    rw [List.length_cons]
    refine Act.eqn ?_ (show 10 * r.length + (0 + 10) = 10 * (r.length + 1) by omega)
    refine Act.bind' (Act.bind' (act_set hd ho (F.new kv (.head _)) lo.1 lo.2 (by omega)) .pure) ?_
    dsimp only
    have ih := act_setLoop hd f hf r (t + 2) _ (n + 1) { s with heap := s.heap.update d fun _ => dictO (es ++ [⟨kv.1, .int kv.1 t, .str kv.2 (t + 1)⟩]) (n + 1), toks := s.toks + 1 } (Heap.get?_update_self _ ho rfl) F.step
    dsimp only at ih
    rw [update_update] at ih
    simp only [entS]
    rw [show n + (r.length + 1) = n + 1 + r.length by omega, show s.toks + (r.length + 1) = s.toks + 1 + r.length by omega]
    rw [show es ++ ({ hash := kv.1, key := .int kv.1 t, val := .str kv.2 (t + 1) } :: entS (t + 2) r : List DictEntry) = es ++ [{ hash := kv.1, key := .int kv.1 t, val := .str kv.2 (t + 1) }] ++ entS (t + 2) r by simp]
    exact ih
theorem act_subLong {p : Pos} {kvs : List (Int × Str)} (hn : 28 ≤ s.heap.objs.size) (hl : 15 < kvs.length) (F : Fine [] kvs) :
    Act w (13 * kvs.length + 2) (subDict (kvs.map (prI p))) s s.heap.objs.size { s with heap := s.heap.push (dictO (entL s.toks kvs) kvs.length), toks := s.toks + 3 * kvs.length } := by
  unfold subDict
  refine Act.eqn ?_ (show (0 + ((0 + 13 * kvs.length) + (0 + 1))) + (0 + 1) = 13 * kvs.length + 2 by omega)
  refine Act.bind' (Act.alloc .pure) ?_
  refine Act.bind' (Act.holding (a := ()) (s₁ := { s with heap := s.heap.push (dictO (entL s.toks kvs) kvs.length), toks := s.toks + 3 * kvs.length }) ?_) .pure
  rw [if_neg (by rw [List.length_map]; omega)]
  refine Act.bind' (Act.rule .pure) ?_
  have h := fun f hf => act_subLoop (w := w) hn p f hf kvs [] 0 { s with heap := s.heap.push (dictO [] 0) } (Heap.get?_push_size _ rfl) F
  simp only [push_update, List.nil_append, Nat.zero_add] at h
  exact Act.bind' (h _ (fun kv u => rfl)) .pure
theorem act_subShort {p : Pos} {kvs : List (Int × Str)} (hn : 28 ≤ s.heap.objs.size) (hl : kvs.length ≤ 15) (F : Fine [] kvs) :
    Act w (10 * kvs.length + 3 * kvs.length + 1) (subDict (kvs.map (prI p))) s s.heap.objs.size { s with heap := s.heap.push (dictO (entS s.toks kvs) kvs.length), toks := s.toks + 2 * kvs.length + kvs.length } := by
  unfold subDict
  refine Act.eqn ?_ (show (0 + ((0 + 10 * kvs.length) + 3 * kvs.length)) + (0 + 1) = 10 * kvs.length + 3 * kvs.length + 1 by omega)
  refine Act.bind' (Act.alloc .pure) ?_
  refine Act.bind' (Act.holding (a := ()) (s₁ := { s with heap := s.heap.push (dictO (entS s.toks kvs) kvs.length), toks := s.toks + 2 * kvs.length + kvs.length }) ?_) .pure
  rw [if_pos (by rw [List.length_map]; omega)]
  refine Act.bind' (act_pairs p kvs { s with heap := s.heap.push (dictO [] 0) }) ?_
  refine Act.holding ?_
  have h := fun f hf => act_setLoop (w := w) hn f hf kvs s.toks [] 0 { s with heap := s.heap.push (dictO [] 0), toks := s.toks + 2 * kvs.length } (Heap.get?_push_size _ rfl) F
  simp only [push_update, List.nil_append, Nat.zero_add] at h
  exact Act.bind' (h _ (fun kv u => rfl)) .pure
end
end Mine
end
noncomputable section
open PySem PySem.W PyProof.Rows
set_option maxRecDepth 100000
namespace Mine
section
variable {w : World} {α β : Type} {s s₁ s₂ : Shared} {a : α} {b : β}
def IntE (e : DictEntry) : Prop := ∃ k u v, e = ⟨k, .int k u, v⟩
theorem act_put {d : Addr} {es : List DictEntry} {n : Nat} {e : DictEntry} (hd : 28 ≤ d) (ho : s.heap.get? d = some (dictO es n)) (he : IntE e) (hk : ∀ x ∈ es, x.hash ≠ e.hash) (hz : es.length ≤ 100000) :
    Act w 4 (dictPut d e.hash e.key e.val) s () { s with heap := s.heap.update d fun _ => dictO (es ++ [e]) (n + 1) } := by
  obtain ⟨k, u, v, rfl⟩ := he
  unfold dictPut
  refine Act.bind' (act_find ho hk) ?_
  exact act_grow hd ho hz
theorem act_mergeLoop {d a : Addr} (hda : d ≠ a) {cs : List DictEntry} {m : Nat} (f : Nat → PUnit → Sem (ForInStep PUnit))
    (hf : ∀ i e es n u (s : Shared), cs[i]? = some e → s.heap.get? d = some (dictO es n) → s.heap.get? a = some (dictO cs m) → IntE e → (∀ x ∈ es, x.hash ≠ e.hash) → es.length ≤ 100000 →
      Act w 6 (f i u) s (.yield ⟨⟩) { s with heap := s.heap.update d fun _ => dictO (es ++ [e]) (n + 1) }) (hI : ∀ e ∈ cs, IntE e) :
    ∀ (k j : Nat) (es : List DictEntry) (n : Nat) (s : Shared), j + k = cs.length → s.heap.get? d = some (dictO es n) → s.heap.get? a = some (dictO cs m) →
      (∀ e ∈ cs.drop j, ∀ x ∈ es, x.hash ≠ e.hash) → ((cs.drop j).map (·.hash)).Nodup → es.length + k ≤ 100000 →
      Act w (6 * k) (forIn (List.range' j k) ⟨⟩ f) s ⟨⟩ { s with heap := s.heap.update d fun _ => dictO (es ++ cs.drop j) (n + k) }
  | 0, j, es, n, s, hj, ho, _, _, _, _ => by
    rw [List.range'_zero, List.forIn_nil, List.drop_eq_nil_of_le (by omega), List.append_nil, Nat.add_zero, update_id ho]
    exact .pure
  | k + 1, j, es, n, s, hj, ho, ha, hk, nd, hz => by
    have hlt : j < cs.length := by omega
    have hd : cs.drop j = cs[j] :: cs.drop (j + 1) := List.drop_eq_getElem_cons hlt
    rw [List.range'_succ, List.forIn_cons]
    rw [hd] at hk nd
    refine Act.eqn ?_ (show 6 * k + 6 = 6 * (k + 1) by omega)
    refine Act.bind' (hf j cs[j] es n ⟨⟩ s (List.getElem?_eq_getElem hlt) ho ha (hI _ (List.getElem_mem hlt)) (hk _ (.head _)) (by omega)) ?_
    dsimp only
    have ih := act_mergeLoop hda f hf hI k (j + 1) (es ++ [cs[j]]) (n + 1) { s with heap := s.heap.update d fun _ => dictO (es ++ [cs[j]]) (n + 1) } (by omega) (Heap.get?_update_self _ ho rfl)
      ((Heap.get?_update_ne _ _ _ _ (Ne.symm hda)).trans ha) (fun e he x hx => by
        rcases List.mem_append.mp hx with q | q
        · exact hk e (.tail _ he) x q
        · cases List.mem_singleton.mp q
          intro z
          simp only [List.map_cons, List.nodup_cons, List.mem_map] at nd
          exact nd.1 ⟨e, he, z.symm⟩) (by simp only [List.map_cons, List.nodup_cons] at nd; exact nd.2) (by simp only [List.length_append, List.length_cons, List.length_nil]; omega)
    dsimp only at ih
    rw [update_update, show n + 1 + k = n + (k + 1) by omega, List.append_assoc, List.singleton_append, ← hd] at ih
    exact ih
theorem act_typeOf {a : Addr} {es : List DictEntry} {n : Nat} (ho : s.heap.get? a = some (dictO es n)) : Act w 1 (typeOf (.ref a)) s (.type "dict") s := by
  show Act w 1 (loadPart a (some headPart) >>= fun o => pure o.cls) _ _ _
  exact Act.bind' (Act.load ho .pure) .pure
theorem act_isInst {a : Addr} {es : List DictEntry} {n : Nat} (ho : s.heap.get? a = some (dictO es n)) : Act w 1 (isInstance (.ref a) (.type "dict")) s true s := by
  show Act w 1 (typeOf (.ref a) >>= fun t => isSubtype t (.type "dict")) s true s
  refine Act.bind' (X := typeOf (.ref a)) (act_typeOf ho) ?_
  rw [isSubtype_dict_dict]
  exact .pure
theorem act_special {a : Addr} {es : List DictEntry} {n : Nat} (ho : s.heap.get? a = some (dictO es n)) : Act w 1 (specialOf (.ref a) "__iter__") s (some (Value.builtin "dict.__iter__")) s := by
  show Act w 1 (typeOf (.ref a) >>= fun t => typeLookup t "__iter__") s _ s
  refine Act.bind' (X := typeOf (.ref a)) (act_typeOf ho) ?_
  rw [F.slot_dict_iter.lookup]
  exact .pure
theorem act_merge {d a : Addr} {es cs : List DictEntry} {n m : Nat} (hd : 28 ≤ d) (ha : 28 ≤ a) (hda : d ≠ a) (hod : s.heap.get? d = some (dictO es n)) (hoa : s.heap.get? a = some (dictO cs m)) (hne : es ≠ [])
    (hI : ∀ e ∈ cs, IntE e) (hk : ∀ e ∈ cs, ∀ x ∈ es, x.hash ≠ e.hash) (nd : (cs.map (·.hash)).Nodup) (hz : es.length + cs.length ≤ 100000) :
    Act w (6 * cs.length + 5) (mergeMapping d (.ref a) false) s () { s with heap := s.heap.update d fun _ => dictO (es ++ cs) (n + cs.length) } := by
  unfold mergeMapping
  refine Act.eqn ?_ (show (((((((0 + 6 * cs.length) + 1) + 1) + 1) + 0) + 1) + 1) = 6 * cs.length + 5 by omega)
  refine Act.bind' (act_isInst hoa) ?_
  dsimp only
  rw [if_pos rfl]
  refine Act.bind' (act_special hoa) ?_
  simp only [beq_self_eq_true]
  refine Act.bind' .pure ?_
  dsimp only
  rw [if_neg (by rw [beq_iff_eq]; exact fun (q : a = 1) => by rw [q] at ha; exact absurd ha (by decide))]
  refine Act.bind' (act_entries hod) ?_
  rw [if_neg (by cases es with | nil => exact absurd rfl hne | cons x r => simp)]
  refine Act.bind' (act_entries hoa) ?_
  refine Act.bind' (act_epoch hoa) ?_
  have h := fun f hf => act_mergeLoop (w := w) hda (m := m) f hf hI cs.length 0 es n s (by omega) hod hoa (by simpa using hk) (by simpa using nd) hz
  rw [List.drop_zero] at h
  rw [List.range_eq_range']
  refine Act.bind' (h _ ?_) .pure
  intro i e es' n' u s' hi hd' ha' hIe hke hz'
  refine Act.bind' (act_entries ha') ?_
  simp only [List.getElem?_toArray, hi]
  rw [if_neg Bool.false_ne_true]
  refine Act.bind' (Act.holding (act_put hd hd' hIe hke hz')) ?_
  refine Act.bind' (act_epoch (n := m) (es := cs) ((Heap.get?_update_ne _ _ _ _ (Ne.symm hda)).trans ha')) ?_
  rw [if_neg (by simp)]
  exact .pure
end
end Mine
end
noncomputable section
open PySem PySem.W PyProof.Rows
set_option maxRecDepth 100000
namespace Mine
section
variable {w : World} {s : Shared}
noncomputable abbrev hpL (B : List Obj) (es : List DictEntry) (n : Nat) (subs : List Obj) : Heap := ⟨⟨B ++ dictO es n :: subs⟩, {}⟩
theorem heap_push (l : List Obj) (life : Life) (o : Obj) : (Heap.mk ⟨l⟩ life).push o = Heap.mk ⟨l ++ [o]⟩ life := by
  show Heap.mk ((⟨l⟩ : Array Obj).push o) life = _
  simp
theorem hpL_push (B : List Obj) (es : List DictEntry) (n : Nat) (subs : List Obj) (o : Obj) : (hpL B es n subs).push o = hpL B es n (subs ++ [o]) := by
  rw [hpL, heap_push]; simp
theorem hpL_update (B : List Obj) (es es' : List DictEntry) (n n' : Nat) (subs : List Obj) : (hpL B es n subs).update B.length (fun _ => dictO es' n') = hpL B es' n' subs := by
  show Heap.mk ((⟨B ++ dictO es n :: subs⟩ : Array Obj).modify B.length _) {} = _
  congr 1
  apply Array.ext_getElem?
  intro i
  rw [Array.getElem?_modify]
  by_cases h : B.length = i
  · subst h; simp
  · simp only [h, if_false]
    by_cases q : i < B.length
    · simp [List.getElem?_append_left q]
    · have : i - B.length ≠ 0 := by omega
      obtain ⟨j, hj⟩ : ∃ j, i - B.length = j + 1 := ⟨i - B.length - 1, by omega⟩
      simp [List.getElem?_append_right (Nat.le_of_not_lt q), hj]
theorem hpL_get (B : List Obj) (es : List DictEntry) (n : Nat) (subs : List Obj) : (hpL B es n subs).get? B.length = some (dictO es n) := by
  unfold Heap.get?
  simp
theorem hpL_size (B : List Obj) (es : List DictEntry) (n : Nat) (subs : List Obj) : (hpL B es n subs).objs.size = B.length + 1 + subs.length := by
  simp; omega
theorem hpL_last (B : List Obj) (es es' : List DictEntry) (n n' : Nat) (subs : List Obj) : (hpL B es n (subs ++ [dictO es' n'])).get? (B.length + 1 + subs.length) = some (dictO es' n') := by
  have := Heap.get?_push_size (o := dictO es' n') (hpL B es n subs) rfl
  rw [hpL_push, hpL_size] at this
  exact this
def keysOf (es : List DictEntry) : List Int := es.map (·.hash)
theorem entL_keys : ∀ (t : Nat) (c : List (Int × Str)), keysOf (entL t c) = c.map (·.1)
  | _, [] => rfl
  | t, kv :: r => by show kv.1 :: keysOf (entL (t + 3) r) = _; rw [entL_keys]; rfl
theorem entS_keys : ∀ (t : Nat) (c : List (Int × Str)), keysOf (entS t c) = c.map (·.1)
  | _, [] => rfl
  | t, kv :: r => by show kv.1 :: keysOf (entS (t + 2) r) = _; rw [entS_keys]; rfl
theorem entL_int : ∀ (t : Nat) (c : List (Int × Str)), ∀ e ∈ entL t c, IntE e
  | _, [], _, h => nomatch h
  | t, kv :: r, e, h => by
    rcases List.mem_cons.mp h with rfl | h
    · exact ⟨_, _, _, rfl⟩
    · exact entL_int _ _ _ h
theorem entS_int : ∀ (t : Nat) (c : List (Int × Str)), ∀ e ∈ entS t c, IntE e
  | _, [], _, h => nomatch h
  | t, kv :: r, e, h => by
    rcases List.mem_cons.mp h with rfl | h
    · exact ⟨_, _, _, rfl⟩
    · exact entS_int _ _ _ h
theorem entL_len : ∀ (t : Nat) (c : List (Int × Str)), (entL t c).length = c.length
  | _, [] => rfl
  | t, kv :: r => by show (entL (t + 3) r).length + 1 = _; rw [entL_len]; rfl
theorem entS_len : ∀ (t : Nat) (c : List (Int × Str)), (entS t c).length = c.length
  | _, [] => rfl
  | t, kv :: r => by show (entS (t + 2) r).length + 1 = _; rw [entS_len]; rfl
structure Keys (done todo : List Int) : Prop where
  nd : (done ++ todo).Nodup
  lo : ∀ k ∈ todo, 0 ≤ k ∧ k < 2 ^ 60
  len : done.length + todo.length ≤ 90000
theorem Keys.fine {done todo : List Int} (h : Keys done todo) {c : List (Int × Str)} {rest : List Int} (e : todo = c.map (·.1) ++ rest) : Fine [] c := by
  subst e
  have nd := (List.nodup_append.mp h.nd).2.1
  refine ⟨fun kv hkv => h.lo _ (List.mem_append_left _ (List.mem_map_of_mem hkv)), (fun _ _ _ q => nomatch q), (List.nodup_append.mp nd).1, ?_⟩
  have := h.len
  simp only [List.length_append, List.length_map, List.length_nil] at this ⊢
  omega
theorem Keys.step {done todo c rest : List Int} (h : Keys done todo) (e : todo = c ++ rest) : Keys (done ++ c) rest := by
  subst e
  refine ⟨by rw [List.append_assoc]; exact h.nd, fun k hk => h.lo k (List.mem_append_right _ hk), ?_⟩
  have := h.len
  simp only [List.length_append] at this ⊢
  omega
abbrev SemP := Sem Value × Sem Value
structure Flush (w : World) (fl : List SemP → Option Addr → Sem (Option Addr)) : Prop where
  first : ∀ run, run ≠ [] → fl run none = (subDict run >>= fun d => pure (some d))
  more : ∀ run d, run ≠ [] → ∃ H : Addr → Value → Sem Unit, fl run (some d) = (holding [.ref d] (subDict run) >>= fun sub => (holding [.ref d, .ref sub] (mergeMapping d (.ref sub) false)).onRaise (H sub) >>= fun _ => pure (some d))
  none_ : ∀ m, fl [] m = pure m
theorem act_more {fl : List SemP → Option Addr → Sem (Option Addr)} (hfl : Flush w fl) {p : Pos} {B : List Obj} {es cs : List DictEntry} {n t t' : Nat} {subs : List Obj} {c : List (Int × Str)} {rest : List Int} {ns : Nat}
    (hB : 28 ≤ B.length) (hes : es ≠ []) (K : Keys (keysOf es) (c.map (·.1) ++ rest)) (hc : c ≠ [])
    (hsub : ∀ s : Shared, s.toks = t → 28 ≤ s.heap.objs.size → Act w ns (subDict (c.map (prI p))) s s.heap.objs.size { s with heap := s.heap.push (dictO cs c.length), toks := t' })
    (hI : ∀ e ∈ cs, IntE e) (hk : keysOf cs = c.map (·.1)) :
    Act w (6 * cs.length + 5 + ns) (fl (c.map (prI p)) (some B.length)) { s with heap := hpL B es n subs, toks := t } (some B.length) { s with heap := hpL B (es ++ cs) (n + cs.length) (subs ++ [dictO cs c.length]), toks := t' } := by
  obtain ⟨H, e⟩ := hfl.more (c.map (prI p)) B.length (by simpa using hc)
  rw [e]
  have hs := hsub { s with heap := hpL B es n subs, toks := t } rfl (by show 28 ≤ (hpL B es n subs).objs.size; rw [hpL_size]; omega)
  refine Act.eqn ?_ (show (0 + (6 * cs.length + 5)) + ns = 6 * cs.length + 5 + ns by omega)
  refine Act.bind' (Act.holding hs) ?_
  dsimp only
  rw [hpL_size, hpL_push]
  have ln : cs.length = c.length := by have := congrArg List.length hk; simpa [keysOf] using this
  have nd := K.nd
  have le := K.len
  simp only [keysOf, List.length_map, List.length_append] at le
  refine Act.bind' (Act.onRaise (Act.holding (act_merge (d := B.length) (a := B.length + 1 + subs.length) (es := es) (cs := cs) (n := n) (m := c.length) hB (show (28 : Nat) ≤ B.length + 1 + subs.length by omega) (show ¬ (B.length : Nat) = B.length + 1 + subs.length by omega) (hpL_get ..) (hpL_last ..) hes hI ?_ ?_ ?_))) ?_
  · intro e he x hx q
    have h1 : x.hash ∈ keysOf es := List.mem_map_of_mem hx
    have h2 : e.hash ∈ c.map (·.1) := by rw [← hk]; exact List.mem_map_of_mem he
    have := (List.nodup_append.mp nd).2.2
    exact this _ h1 _ (List.mem_append_left _ h2) q
  · show (keysOf cs).Nodup
    rw [hk]
    exact (List.nodup_append.mp (List.nodup_append.mp nd).2.1).1
  · omega
  · dsimp only
    rw [hpL_update]
    exact .pure
def itI (p : Pos) (kv : Int × Str) : Option (Sem Value) × Sem Value := (some (prI p kv).1, (prI p kv).2)
abbrev DState := Option Addr × List SemP
abbrev DBody := (Option (Sem Value) × Sem Value) → DState → Sem (ForInStep DState)
def DBody.Ok (f : DBody) (fl : List SemP → Option Addr → Sem (Option Addr)) : Prop := ∀ k v m run, f (some k, v) (m, run) =
  if ((run ++ [(k, v)]).length == 17) = true then fl (run ++ [(k, v)]) m >>= fun m' => pure (.yield (m', [])) else pure (.yield (m, run ++ [(k, v)]))
theorem fill {f : DBody} {fl : List SemP → Option Addr → Sem (Option Addr)} (hf : f.Ok fl) (p : Pos) (rest : List (Option (Sem Value) × Sem Value)) :
    ∀ (c : List (Int × Str)) (m : Option Addr) (run : List SemP), run.length + c.length < 17 → forIn (c.map (itI p) ++ rest) (m, run) f = forIn rest (m, run ++ c.map (prI p)) f
  | [], m, run, _ => by simp
  | kv :: r, m, run, h => by
    simp only [List.length_cons] at h
    rw [List.map_cons, List.cons_append, List.forIn_cons]
    show (f (some (prI p kv).1, (prI p kv).2) (m, run) >>= _) = _
    rw [hf, if_neg (by simp; omega)]
    show forIn (r.map (itI p) ++ rest) (m, run ++ [((prI p kv).1, (prI p kv).2)]) f = _
    rw [fill hf p rest r m _ (by simp; omega)]
    simp
theorem fill17 {f : DBody} {fl : List SemP → Option Addr → Sem (Option Addr)} (hf : f.Ok fl) (p : Pos) (rest : List (Option (Sem Value) × Sem Value)) (c : List (Int × Str)) (m : Option Addr) (hc : c.length = 17) :
    forIn (c.map (itI p) ++ rest) (m, []) f = fl (c.map (prI p)) m >>= fun m' => forIn rest (m', []) f := by
  obtain ⟨i, l, rfl⟩ : ∃ i l, c = i ++ [l] := ⟨c.dropLast, c.getLast (by intro h; rw [h] at hc; cases hc), (List.dropLast_concat_getLast _).symm⟩
  have hi : i.length = 16 := by simpa using hc
  rw [List.map_append, List.append_assoc, fill hf p _ i m [] (by simp; omega), List.map_cons, List.map_nil, List.singleton_append, List.forIn_cons]
  show (f (some (prI p l).1, (prI p l).2) (m, [] ++ i.map (prI p)) >>= _) = _
  rw [hf, if_pos (by simp [hi])]
  simp only [List.nil_append]
  rw [show i.map (prI p) ++ [((prI p l).1, (prI p l).2)] = (i ++ [l]).map (prI p) by simp]
  simp only [bind_assoc, pure_bind]
noncomputable def goD : List (List (Int × Str)) → List DictEntry → Nat → List Obj → Nat → List DictEntry × Nat × List Obj × Nat
  | [], es, n, subs, t => (es, n, subs, t)
  | c :: cs, es, n, subs, t => goD cs (es ++ entL t c) (n + (entL t c).length) (subs ++ [dictO (entL t c) c.length]) (t + 3 * c.length)
theorem act_chunks {f : DBody} {fl : List SemP → Option Addr → Sem (Option Addr)} (hf : f.Ok fl) (hfl : Flush w fl) {p : Pos} {B : List Obj} (hB : 28 ≤ B.length) (rest : List (Option (Sem Value) × Sem Value)) {restK : List Int} :
    ∀ (chunks : List (List (Int × Str))) (es : List DictEntry) (n : Nat) (subs : List Obj) (t : Nat), es ≠ [] → (∀ c ∈ chunks, c.length = 17) → Keys (keysOf es) (chunks.flatten.map (·.1) ++ restK) →
      ∀ {r : DState} {s' : Shared} {nr : Nat}, (let g := goD chunks es n subs t; g.1 ≠ [] → Keys (keysOf g.1) restK → Act w nr (forIn rest (some B.length, []) f) { s with heap := hpL B g.1 g.2.1 g.2.2.1, toks := g.2.2.2 } r s') →
      Act w (nr + 330 * chunks.length) (forIn (chunks.flatten.map (itI p) ++ rest) (some B.length, []) f) { s with heap := hpL B es n subs, toks := t } r s'
  | [], es, n, subs, t, hes, _, K, r, s', nr, h => h hes K
  | c :: cs, es, n, subs, t, hes, hc, K, r, s', nr, h => by
    have h17 := hc c (.head _)
    rw [List.flatten_cons, List.map_append, List.append_assoc, fill17 hf p _ c _ h17]
    rw [List.flatten_cons, List.map_append, List.append_assoc] at K
    have hne : c ≠ [] := by intro q; rw [q] at h17; cases h17
    rw [List.length_cons]
    refine Act.eqn ?_ (show (nr + 330 * cs.length) + (6 * (entL t c).length + 5 + (13 * c.length + 2)) = nr + 330 * (cs.length + 1) by rw [entL_len, h17]; omega)
    refine Act.bind' (act_more hfl hB hes K hne (t' := t + 3 * c.length) (cs := entL t c) (fun s hs h28 => ?_) (entL_int _ _) (entL_keys _ _)) ?_
    · subst hs
      exact act_subLong h28 (by omega) (K.fine rfl)
    · refine act_chunks hf hfl hB rest cs _ _ _ _ (by simp [hes]) (fun c hcc => hc c (.tail _ hcc)) ?_ h
      have := K.step rfl
      rw [← entL_keys t c] at this
      simpa [keysOf] using this
end
end Mine
end
noncomputable section
open PySem PySem.W PyProof.Rows
set_option maxRecDepth 100000
namespace Mine
section
variable {w : World} {s : Shared}
theorem act_display {p : Pos} {B : List Obj} {t : Nat} {c0 last : List (Int × Str)} {chunks : List (List (Int × Str))} (hB : 28 ≤ B.length) (h0 : c0.length = 17) (hc : ∀ c ∈ chunks, c.length = 17) (hl : last ≠ []) (hl' : last.length ≤ 15)
    (K : Keys [] ((c0 ++ (chunks.flatten ++ last)).map (·.1))) {esF : List DictEntry} {nF : Nat} {subsF : List Obj} {tF : Nat} (hg : goD chunks (entL t c0) c0.length [] (t + 3 * c0.length) = (esF, nF, subsF, tF)) :
    Act w (6 * last.length + 5 + (10 * last.length + 3 * last.length + 1) + (330 * chunks.length + (13 * 17 + 2))) (dictDisplay ((c0 ++ (chunks.flatten ++ last)).map (itI p))) { s with heap := ⟨⟨B⟩, {}⟩, toks := t } (.ref B.length)
      { s with heap := hpL B (esF ++ entS tF last) (nF + (entS tF last).length) (subsF ++ [dictO (entS tF last) last.length]), toks := tF + 2 * last.length + last.length } := by
  have hf : ∀ {f : DBody} {fl : List SemP → Option Addr → Sem (Option Addr)}, f.Ok fl → Flush w fl → ∀ (fin : DState → Sem Value), (∀ r, fin r = (fl r.2 r.1 >>= fun x => match x with | some d => pure (.ref d) | none => newDict)) →
      Act w (6 * last.length + 5 + (10 * last.length + 3 * last.length + 1) + (330 * chunks.length + (13 * 17 + 2))) (forIn (c0.map (itI p) ++ (chunks.flatten.map (itI p) ++ last.map (itI p))) ((none, []) : DState) f >>= fin) { s with heap := ⟨⟨B⟩, {}⟩, toks := t } (.ref B.length)
        { s with heap := hpL B (esF ++ entS tF last) (nF + (entS tF last).length) (subsF ++ [dictO (entS tF last) last.length]), toks := tF + 2 * last.length + last.length } := by
    intro f fl hf hfl fin hfin
    rw [List.map_append, List.map_append] at K
    have e0 : c0 ≠ [] := by intro q; rw [q] at h0; cases h0
    have Q := entL_keys t c0
    have K1 := K.step rfl
    rw [List.nil_append, ← Q] at K1
    have ne0 : entL t c0 ≠ [] := by
      intro q
      have := entL_len t c0
      rw [q] at this
      rw [h0] at this; cases this
    refine Act.bind' (n := 330 * chunks.length + (13 * 17 + 2)) (m := 6 * last.length + 5 + (10 * last.length + 3 * last.length + 1)) (a := (some B.length, last.map (prI p))) (s₁ := { s with heap := hpL B esF nF subsF, toks := tF }) ?_ ?_
    · rw [fill17 hf p _ c0 _ h0, hfl.first _ (by simpa using e0)]
      have hs := act_subLong (w := w) (p := p) (s := { s with heap := ⟨⟨B⟩, {}⟩, toks := t }) (kvs := c0) (by show 28 ≤ (⟨B⟩ : Array Obj).size; simpa using hB) (by omega) (K.fine rfl)
      refine Act.eqn ?_ (show (0 + 330 * chunks.length) + (0 + (13 * c0.length + 2)) = 330 * chunks.length + (13 * 17 + 2) by rw [h0]; omega)
      refine Act.bind' (Act.bind' hs .pure) ?_
      dsimp only
      rw [heap_push, show (B ++ [dictO (entL t c0) c0.length] : List Obj) = B ++ dictO (entL t c0) c0.length :: [] from rfl]
      have hz : (⟨B⟩ : Array Obj).size = B.length := rfl
      rw [hz]
      refine act_chunks (s := s) hf hfl hB (last.map (itI p)) chunks _ _ [] _ ne0 hc K1 ?_
      rw [hg]
      intro g _ _
      have := fill hf p [] last (some B.length) [] (by simp; omega)
      rw [List.append_nil] at this
      rw [this, List.forIn_nil, List.nil_append]
      exact .pure
    · rw [hfin]
      have K2 : esF ≠ [] ∧ Keys (keysOf esF) (last.map (·.1) ++ []) := by
        have all : ∀ (chunks : List (List (Int × Str))) (es : List DictEntry) (n : Nat) (subs : List Obj) (t : Nat), es ≠ [] → Keys (keysOf es) (chunks.flatten.map (·.1) ++ last.map (·.1)) →
            (goD chunks es n subs t).1 ≠ [] ∧ Keys (keysOf (goD chunks es n subs t).1) (last.map (·.1)) := by
          intro chunks
          induction chunks with
          | nil => intro es n subs t h1 h2; exact ⟨h1, h2⟩
          | cons c cs ih =>
            intro es n subs t h1 h2
            refine ih _ _ _ _ (by simp [h1]) ?_
            rw [List.flatten_cons, List.map_append, List.append_assoc] at h2
            have := h2.step rfl
            rw [← entL_keys t c] at this
            simpa [keysOf] using this
        have := all chunks _ c0.length [] (t + 3 * c0.length) ne0 K1
        rw [hg] at this
        simpa using this
      refine Act.eqn ?_ (show 0 + (6 * (entS tF last).length + 5 + (10 * last.length + 3 * last.length + 1)) = 6 * last.length + 5 + (10 * last.length + 3 * last.length + 1) by rw [entS_len]; omega)
      refine Act.bind' (act_more (s := s) hfl hB K2.1 K2.2 hl (t' := tF + 2 * last.length + last.length) (cs := entS tF last) (fun s' hs' h28 => ?_) (entS_int _ _) (entS_keys _ _)) .pure
      subst hs'
      exact act_subShort h28 hl' (K2.2.fine rfl)
  unfold dictDisplay
  rw [List.map_append, List.map_append]
  extract_lets flush main run
  refine hf (fl := flush) (fun k v m run => rfl) ?_ _ (fun r => rfl)
  exact ⟨fun run h => if_neg (by simpa using h), fun run d h => ⟨_, (if_neg (by simpa using h)).trans rfl⟩, fun m => rfl⟩
end
end Mine
end
noncomputable section
open PySem PySem.W PyProof.Rows
set_option maxRecDepth 100000
namespace Mine
noncomputable def stD : Stmt := stOf 8
noncomputable def dName : Str := match stD with | .Assign [.Name x _] _ _ => x | _ => default
noncomputable def dP1 : Pos := match stD with | .Assign [.Name _ p] _ _ => p | _ => default
noncomputable def dP2 : Pos := match stD with | .Assign _ (.Dict _ _ p) _ => p | _ => default
noncomputable def dP3 : Pos := match stD with | .Assign _ _ p => p | _ => default
noncomputable def dK : List (Option Expr) := match stD with | .Assign _ (.Dict ks _ _) _ => ks | _ => []
noncomputable def dV : List Expr := match stD with | .Assign _ (.Dict _ vs _) _ => vs | _ => []
theorem stD_eq : stD = .Assign [.Name dName dP1] (.Dict dK dV dP2) dP3 := by kernel_rfl
theorem drop7 : (bodyP.drop 7).take 1 = [stD] := by kernel_rfl
def kvsOf : List (Option Expr) → List Expr → Option (List (Int × Str))
  | [], [] => some []
  | some (.Constant (.int k) _ _) :: ks, .Constant (.str v) _ _ :: vs => (kvsOf ks vs).map ((k, v) :: ·)
  | _, _ => none
theorem items_of (env : Env) (p : Pos) : ∀ (ks : List (Option Expr)) (vs : List Expr) (l : List (Int × Str)), kvsOf ks vs = some l →
    (evalEachOpt ks env).zip ((evalEach vs env).map fun v => do let x ← v; standAt p; pure x) = l.map (itI p)
  | [], [], l, h => by cases h; rfl
  | some (.Constant (.int k) u q) :: ks, .Constant (.str v) u' q' :: vs, l, h => by
    simp only [kvsOf, Option.map_eq_some_iff] at h
    obtain ⟨r, h, rfl⟩ := h
    have ih := items_of env p ks vs r h
    rw [List.map_cons, ← ih]
    rfl
  | [], _ :: _, _, h => by simp [kvsOf] at h
  | _ :: _, [], _, h => by simp [kvsOf] at h
  | none :: _, _ :: _, _, h => by simp [kvsOf] at h
  | some e :: ks, v :: vs, l, h => by
    unfold kvsOf at h
    split at h
    · rename_i a b; cases b
    · rename_i k u q ks' v' u' q' vs' a b
      cases a; cases b
      simp only [Option.map_eq_some_iff] at h
      obtain ⟨r, h, rfl⟩ := h
      have ih := items_of env p ks vs r h
      rw [List.map_cons, ← ih]
      rfl
    · cases h
noncomputable def chunksV : List (List (Int × Str)) := [kv1, kv2, kv3, kv4, kv5, kv6, kv7, kv8, kv9, kv10, kv11, kv12, kv13, kv14, kv15, kv16, kv17, kv18, kv19, kv20, kv21, kv22, kv23, kv24, kv25, kv26, kv27, kv28, kv29, kv30, kv31, kv32, kv33, kv34, kv35, kv36, kv37]
theorem kvs_eq : kvsOf dK dV = some (kv0 ++ (chunksV.flatten ++ kv38)) := by kernel_rfl
def rising : Int → List Int → Bool
  | _, [] => true
  | a, b :: r => decide (a < b) && rising b r
theorem rising_lt : ∀ (l : List Int) (a : Int), rising a l = true → ∀ x ∈ l, a < x
  | b :: r, a, h, x, hx => by
    obtain ⟨h1, h2⟩ := Bool.and_eq_true_iff.mp h
    have h1 := of_decide_eq_true h1
    rcases List.mem_cons.mp hx with rfl | hx
    · exact h1
    · exact Int.lt_trans h1 (rising_lt r b h2 x hx)
theorem rising_nodup : ∀ (l : List Int) (a : Int), rising a l = true → l.Nodup
  | [], _, _ => .nil
  | b :: r, a, h => by
    obtain ⟨h1, h2⟩ := Bool.and_eq_true_iff.mp h
    refine List.nodup_cons.mpr ⟨fun q => ?_, rising_nodup r b h2⟩
    have := rising_lt r b h2 b q
    omega
theorem keysD : Keys [] ((kv0 ++ (chunksV.flatten ++ kv38)).map (·.1)) := by
  have h : rising (-1) ((kv0 ++ (chunksV.flatten ++ kv38)).map (·.1)) = true := by kernel_rfl
  have hb : ((kv0 ++ (chunksV.flatten ++ kv38)).map (·.1)).all (fun k => decide (k < 2 ^ 60)) = true := by kernel_rfl
  have hl : ((kv0 ++ (chunksV.flatten ++ kv38)).map (·.1)).length = 650 := by kernel_rfl
  refine ⟨by rw [List.nil_append]; exact rising_nodup _ _ h, fun k hk => ⟨by have := rising_lt _ _ h k hk; omega, of_decide_eq_true (List.all_eq_true.mp hb k hk)⟩, by rw [hl]; decide⟩
theorem c17 : ∀ c ∈ chunksV, c.length = 17 := by
  have h : chunksV.all (fun c => c.length == 17) = true := by kernel_rfl
  intro c hc
  exact beq_iff_eq.mp (List.all_eq_true.mp h c hc)
noncomputable def baseL (w : World) : List Obj := (T9 w.params).list 141
theorem base_len (w : World) : (baseL w).length = 141 := by unfold baseL BT.list; rw [List.length_map, List.length_range]
noncomputable def gD := goD chunksV (entL 457 kv0) kv0.length [] (457 + 3 * kv0.length)
theorem fin_heap (w : World) : hpL (baseL w) (gD.1 ++ entS gD.2.2.2 kv38) (gD.2.1 + (entS gD.2.2.2 kv38).length) (gD.2.2.1 ++ [dictO (entS gD.2.2.2 kv38) kv38.length]) = absHeap (T99 w.params) 180 {} := by kernel_rfl
theorem fin_toks : gD.2.2.2 + 2 * kv38.length + kv38.length = 2407 := by kernel_rfl
noncomputable def tailD (v : Value) : Sem Flow := (do standAt dP1; bindName envP dName v; pure .next)
theorem swapsD : swapsWith (.Dict dK dV dP2) (some (.Name dName dP1)) dP3.line envP = pure false := rfl
theorem exD : execs [stD] envP = (do standAt dP3; let v ← eval (.Dict dK dV dP2) envP; tailD v) >>= fun f => match f with | .next => execs [] envP | f => pure f := by
  rw [stD_eq, execs_cons, exec_Assign_Name _ _ _ _ _ swapsD]
  rfl
theorem tail_run (w : World) (os : OsState) (pos : Pos) : segRunQ tbQ PW w 28 annP 1 12 (S99 w os) ⟨((tailD (.ref 141)).bind fun f => match f with | .next => execs [] envP | f => pure f).wrap doneF deadEnd id id, codeP, pos, frP⟩ = some (.next, S10 w os, codeP, ⟨42, 0, 42, 13⟩) := by kernel_rfl
noncomputable def nD : Nat := 6 * kv38.length + 5 + (10 * kv38.length + 3 * kv38.length + 1) + (330 * chunksV.length + (13 * 17 + 2)) + (0 + 1)
theorem pD (w : World) (os : OsState) : segRun treeTable PW w 28 annP 1 ((nD + 1) + 12) (S9 w os).abs (piecesOf ((bodyP.drop 7).take 1) envP codeP ⟨40, 0, 41, 30⟩ frP) = some (.next, (S10 w os).abs, codeP, ⟨42, 0, 42, 13⟩) := by
  rw [drop7]
  have A : Act w nD (eval (.Dict dK dV dP2) envP) (S9 w os).abs (.ref 141) (S99 w os).abs := by
    show Act w nD (standAt dP2 >>= fun _ => dictDisplay ((evalEachOpt dK envP).zip ((evalEach dV envP).map fun v => do let x ← v; standAt dP2; pure x))) _ _ _
    rw [items_of envP dP2 _ _ _ kvs_eq]
    refine Act.bind' (Act.at .pure) ?_
    have h := act_display (w := w) (s := (S9 w os).abs) (p := dP2) (B := baseL w) (t := 457) (c0 := kv0) (last := kv38) (chunks := chunksV) (by rw [base_len]; decide) (by kernel_rfl) c17 (by intro q; cases q) (by decide) keysD (esF := gD.1) (nF := gD.2.1) (subsF := gD.2.2.1) (tF := gD.2.2.2) rfl
    rw [fin_heap, fin_toks, base_len] at h
    exact h
  have e2 : (((eval (.Dict dK dV dP2) envP).bind tailD).bind fun f => match f with | .next => execs [] envP | f => pure f).wrap doneF deadEnd id id =
      (eval (.Dict dK dV dP2) envP).wrap (fun v => ((tailD v).bind fun f => match f with | .next => execs [] envP | f => pure f).wrap doneF deadEnd id id) deadEnd id id := by
    rw [show ((eval (.Dict dK dV dP2) envP).bind tailD).bind (fun f => match f with | .next => execs [] envP | f => pure f) = (eval (.Dict dK dV dP2) envP).bind (fun v => (tailD v).bind fun f => match f with | .next => execs [] envP | f => pure f) from bind_assoc (m := Sem) _ _ _]
    rw [Sem.bind_eq_wrap (m := eval (.Dict dK dV dP2) envP), Sem.wrap_wrap]
    rfl
  have e : (execs [stD] envP).wrap doneF deadEnd id id = .at dP3 fun _ => (eval (.Dict dK dV dP2) envP).wrap (fun v => ((tailD v).bind fun f => match f with | .next => execs [] envP | f => pure f).wrap doneF deadEnd id id) deadEnd id id := by
    rw [exD, ← e2]
    rfl
  obtain ⟨pos', hA⟩ := A (fun v => ((tailD v).bind fun f => match f with | .next => execs [] envP | f => pure f).wrap doneF deadEnd id id) deadEnd id id dP3
  have t := tail_run w os pos'
  rw [show segRunQ = @segRunT from PySem.W.Fast.te10110043849684766642.symm, show tbQ = treeTable from PySem.W.Fast.te14364793385576792824.symm] at t
  refine seg_go (s' := (S99 w os).abs) (t' := _) ?_ (segRun_of t)
  show segGo treeTable PW w 28 annP 1 (nD + 1) _ ⟨(execs [stD] envP).wrap doneF deadEnd id id, codeP, ⟨40, 0, 41, 30⟩, frP⟩ = _
  rw [e]
  exact segGo_one rfl rfl rfl hA
end Mine
end
noncomputable section
open PySem PySem.W PyProof.Rows
set_option maxRecDepth 100000
namespace Mine
theorem pA (w : World) (os : OsState) : segRunQ tbQ PW w 28 annP 1 560 (S1 w os) (piecesOf (bodyP.take 5) envP codeP ⟨0,0,0,0⟩ frP) = some (.next, S7 w os, codeP, ⟨38, 0, 38, 8⟩) := by kernel_rfl
theorem pB00 (w : World) (os : OsState) : segRunQ tbQ PW ((w.withFollow "set-order" false).withFollow "special-get-raises" false) 28 annP 1 999 (S7 ((w.withFollow "set-order" false).withFollow "special-get-raises" false) os) (piecesOf ((bodyP.drop 5).take 1) envP codeP ⟨38, 0, 38, 8⟩ frP) = some (.next, S8 ((w.withFollow "set-order" false).withFollow "special-get-raises" false) os, codeP, ⟨39, 0, 39, 6⟩) := by kernel_rfl
theorem pB01 (w : World) (os : OsState) : segRunQ tbQ PW ((w.withFollow "set-order" false).withFollow "special-get-raises" true) 28 annP 1 999 (S7 ((w.withFollow "set-order" false).withFollow "special-get-raises" true) os) (piecesOf ((bodyP.drop 5).take 1) envP codeP ⟨38, 0, 38, 8⟩ frP) = some (.next, S8 ((w.withFollow "set-order" false).withFollow "special-get-raises" true) os, codeP, ⟨39, 0, 39, 6⟩) := by kernel_rfl
theorem pB10 (w : World) (os : OsState) : segRunQ tbQ PW ((w.withFollow "set-order" true).withFollow "special-get-raises" false) 28 annP 1 999 (S7 ((w.withFollow "set-order" true).withFollow "special-get-raises" false) os) (piecesOf ((bodyP.drop 5).take 1) envP codeP ⟨38, 0, 38, 8⟩ frP) = some (.next, S8 ((w.withFollow "set-order" true).withFollow "special-get-raises" false) os, codeP, ⟨39, 0, 39, 6⟩) := by kernel_rfl
theorem pB11 (w : World) (os : OsState) : segRunQ tbQ PW ((w.withFollow "set-order" true).withFollow "special-get-raises" true) 28 annP 1 999 (S7 ((w.withFollow "set-order" true).withFollow "special-get-raises" true) os) (piecesOf ((bodyP.drop 5).take 1) envP codeP ⟨38, 0, 38, 8⟩ frP) = some (.next, S8 ((w.withFollow "set-order" true).withFollow "special-get-raises" true) os, codeP, ⟨39, 0, 39, 6⟩) := by kernel_rfl
def PB (w : World) : Prop := ∀ os, segRunQ tbQ PW w 28 annP 1 999 (S7 w os) (piecesOf ((bodyP.drop 5).take 1) envP codeP ⟨38, 0, 38, 8⟩ frP) = some (.next, S8 w os, codeP, ⟨39, 0, 39, 6⟩)
theorem pB (w : World) : PB w :=
  byRow2 "special-get-raises" (P := PB)
    (byRow2 "set-order" (P := fun w => PB (w.withFollow "special-get-raises" false)) (fun w os => pB00 w os) (fun w os => pB10 w os))
    (byRow2 "set-order" (P := fun w => PB (w.withFollow "special-get-raises" true)) (fun w os => pB01 w os) (fun w os => pB11 w os)) w
theorem pC (w : World) (os : OsState) : segRunQ tbQ PW w 28 annP 1 30 (S8 w os) (piecesOf ((bodyP.drop 6).take 1) envP codeP ⟨39, 0, 39, 6⟩ frP) = some (.next, S9 w os, codeP, ⟨40, 0, 41, 30⟩) := by kernel_rfl
theorem pE (w : World) (os : OsState) : segRunQ tbQ PW w 28 annP 1 296 (S10 w os) (piecesOf ((bodyP.drop 8).take 6) envP codeP ⟨42, 0, 42, 13⟩ frP) = some (.next, S16 w os, codeP, ⟨52, 0, 60, 20⟩) := by kernel_rfl
theorem pF (w : World) (os : OsState) : segRunQ tbQ PW w 28 annP 1 731 (S16 w os) (piecesOf ((bodyP.drop 14).take 1) envP codeP ⟨52, 0, 60, 20⟩ frP) = some (.next, S17 w os, codeP, ⟨61, 0, 141, 93⟩) := by kernel_rfl
theorem pG (w : World) (os : OsState) : segRunQ tbQ PW w 28 annP 1 186 (S17 w os) (piecesOf ((bodyP.drop 15).take 7) envP codeP ⟨61, 0, 141, 93⟩ frP) = some (.next, S24 w os, codeP, ⟨195, 0, 210, 130⟩) := by kernel_rfl
theorem pPre (w : World) (os : OsState) : PySem.W.Fast.tw15667345088766844465 tbQ PW w 28 annP 12 (S0 w os).abs (topStub PW) = some ((S1 w os).abs, ⟨PySem.W.Fast.tw11892475500146522536 tbQ codeP, codeP, ⟨0, 0, 0, 0⟩, frP⟩) := by kernel_rfl
theorem pBlk (w : World) (os : OsState) : segRunQ tbQ PW w 28 annP 1 1 (S1 w os) (blockOf bodyP envP codeP ⟨0, 0, 0, 0⟩ frP) = some (.next, S1 w os, codeP, ⟨0, 0, 0, 0⟩) := by kernel_rfl
theorem pFin (w : World) (os : OsState) : PySem.W.Fast.tw14082659384304107361 tbQ PW w 28 annP 2 (S24 w os).abs ⟨doneF .next, codeP, ⟨195, 0, 210, 130⟩, frP⟩ = some (S24 w os).abs := by kernel_rfl
end Mine
end
noncomputable section
open PySem PySem.W PyProof.Rows
set_option maxRecDepth 100000
namespace Mine
theorem fence_run (w : World) (os : OsState) : (PySem.W.Fast.tw14289696077712309145 PW ⟨absHeap (T98 w.params) 28 {}, ⟨[]⟩, ⟨0, 0, 0, 0⟩, 276, os⟩).map (fun s => (s.heap, s.gens, s.drawn, s.toks)) = some (absHeap (T0 w.params) 28 {}, ⟨[]⟩, ⟨0, 0, 0, 0⟩, 276) := by kernel_rfl
theorem imp_run (w : World) : PySem.W.Fast.tw10274390034422433532 tbQ (opening PW) w 800 (PySem.W.Fast.tw1435165496053646825 (opening PW)).1 (PySem.W.Fast.tw1435165496053646825 (opening PW)).2 = some ⟨absHeap (T98 w.params) 28 {}, ⟨[]⟩, ⟨0, 0, 0, 0⟩, 276, (PySem.W.Fast.tw1435165496053646825 (opening PW)).1.os⟩ := by kernel_rfl
end Mine
end
noncomputable section
open PySem PySem.W PyProof.Rows
set_option maxRecDepth 100000
namespace Mine
theorem segRunQ_eq : segRunQ = @segRunT := PySem.W.Fast.te10110043849684766642.symm
theorem tbQ_eq : tbQ = treeTable := PySem.W.Fast.te14364793385576792824.symm
theorem run_of {w : World} {n : Nat} {s s' : SharedT} {t : Thread} {f : Flow} {c : Code} {q : Pos} (h : segRunQ tbQ PW w 28 annP 1 n s t = some (f, s', c, q)) : segRun treeTable PW w 28 annP 1 n s.abs t = some (f, s'.abs, c, q) := by
  rw [segRunQ_eq, tbQ_eq] at h
  exact segRun_of h
theorem cut_body (k n : Nat) : bodyP.drop k = (bodyP.drop k).take n ++ bodyP.drop (k + n) := by
  rw [← List.drop_drop, List.take_append_drop]
noncomputable def nRun : Nat := 12 + (1 + (560 + (999 + (30 + ((nD + 1 + 12) + (296 + (731 + (186 + 2))))))))
theorem step_piece {w : World} {n N : Nat} {s s' r : Shared} {k j : Nat} {c : Code} {pos p' : Pos} (h : segRun treeTable PW w 28 annP 1 n s (piecesOf ((bodyP.drop k).take j) envP c pos frP) = some (.next, s', c, p'))
    (q : topRun treeTable PW w 28 annP N s' (restOf (bodyP.drop (k + j)) envP c p' frP) = some r) : topRun treeTable PW w 28 annP (n + N) s (restOf (bodyP.drop k) envP c pos frP) = some r := by
  rw [cut_body k j]
  exact piece_app h q
theorem topRun_all (w : World) (os : OsState) : topRun treeTable PW w 28 annP nRun (S0 w os).abs (topStub PW) = some (S24 w os).abs := by
  have pre := pPre w os
  rw [tbQ_eq, show PySem.W.Fast.tw15667345088766844465 = @topGo from PySem.W.Fast.te15667345088766844465.symm, show PySem.W.Fast.tw11892475500146522536 = @denote from PySem.W.Fast.te11892475500146522536.symm] at pre
  have fin := pFin w os
  rw [tbQ_eq, show PySem.W.Fast.tw14082659384304107361 = @topRun from PySem.W.Fast.te14082659384304107361.symm] at fin
  refine go_top pre ?_
  refine piece_block (run_of (pBlk w os)) ?_
  refine step_piece (k := 0) (j := 5) (run_of (pA w os)) ?_
  refine step_piece (k := 5) (j := 1) (run_of (pB w os)) ?_
  refine step_piece (k := 6) (j := 1) (run_of (pC w os)) ?_
  refine step_piece (k := 7) (j := 1) (pD w os) ?_
  refine step_piece (k := 8) (j := 6) (run_of (pE w os)) ?_
  refine step_piece (k := 14) (j := 1) (run_of (pF w os)) ?_
  refine step_piece (k := 15) (j := 7) (run_of (pG w os)) ?_
  rw [show bodyP.drop (15 + 7) = [] by kernel_rfl]
  exact piece_nil fin
noncomputable def QV : Program := { PW with main := { PW.main with body := [stOf 0, stOf 22] } }
noncomputable def LV : List Str := ["_wall", "EMPTYSTRING", "_Accumulator", "b1_set", "in_table_b1", "b3_exceptions", "map_table_b3", "tspecials", "_name_disallowed_re", "_value_disallowed_re", "_formatparam", "Headers", "_law_read", "_law_sides", "_law_set", "_law_rings", "_law_run"]
noncomputable def XtV : Shared → Bool := fun s => xlAt QV [] s && recOk [] s
noncomputable abbrev H0V (P : Params) : Heap := absHeap (T0 P) 28 {}
noncomputable abbrev H1V (P : Params) : Heap := absHeap (T24 P) 371 {}
theorem look1 (w : World) : (staticsOk (importedModules PW.main.body) (H0V w.params) (H1V w.params)) = true := by kernel_rfl
theorem look2 (w : World) : namesBound PW (H1V w.params) = true := by kernel_rfl
theorem look3 (w : World) : laidKept (H0V w.params) (H1V w.params) = true := by kernel_rfl
theorem look4 (w : World) (os : OsState) : PySem.W.Fast.tw4187177175401517315 QV LV (importedModules PW.main.body) XtV true ⟨H1V w.params, ⟨[]⟩, ⟨0, 0, 0, 0⟩, 2735, os⟩ = openGood QV LV := by kernel_rfl
end Mine
end
noncomputable section
open PySem PySem.W PyProof.Rows
set_option maxRecDepth 100000
namespace Mine
noncomputable def K0 (P : Params) : Frag := (nat_lit 0, o0 P) :: (nat_lit 1, o1 P) :: (nat_lit 2, o2 P) :: (nat_lit 3, o3_24 P) :: (nat_lit 4, o4 P) :: (nat_lit 5, o5 P) :: (nat_lit 6, o6 P) :: (nat_lit 7, o7 P) :: (nat_lit 8, o8 P) :: (nat_lit 9, o9 P) :: (nat_lit 10, o10 P) :: (nat_lit 11, o11 P) :: (nat_lit 12, o12 P) :: (nat_lit 13, o13 P) :: (nat_lit 14, o14 P) :: (nat_lit 15, o15 P) :: (nat_lit 16, o16 P) :: (nat_lit 17, o17 P) :: (nat_lit 18, o18 P) :: (nat_lit 19, o19 P) :: (nat_lit 20, o20 P) :: (nat_lit 21, o21 P) :: (nat_lit 22, o22 P) :: (nat_lit 23, o23 P) :: (nat_lit 24, o24 P) :: (nat_lit 25, o25 P) :: (nat_lit 26, o26 P) :: (nat_lit 27, o27 P) :: (nat_lit 28, o28 P) :: (nat_lit 29, o29_24 P) :: (nat_lit 30, o30 P) :: (nat_lit 31, o31 P) :: (nat_lit 32, o32 P) :: (nat_lit 33, o33 P) :: (nat_lit 34, o34 P) :: (nat_lit 35, o35 P) :: (nat_lit 36, o36 P) :: (nat_lit 37, o37 P) :: (nat_lit 38, o38 P) :: (nat_lit 39, o39 P) :: (nat_lit 40, o40 P) :: (nat_lit 41, o41 P) :: (nat_lit 42, o42 P) :: (nat_lit 43, o43 P) :: (nat_lit 44, o44 P) :: (nat_lit 45, o45 P) :: (nat_lit 46, o46 P) :: (nat_lit 47, o47 P) :: (nat_lit 48, o48 P) :: (nat_lit 49, o49 P) :: (nat_lit 50, o50 P) :: (nat_lit 51, o51 P) :: (nat_lit 52, o52 P) :: (nat_lit 53, o53 P) :: (nat_lit 54, o54 P) :: (nat_lit 55, o55 P) :: (nat_lit 56, o56 P) :: (nat_lit 57, o57 P) :: (nat_lit 58, o58 P) :: (nat_lit 59, o59 P) :: (nat_lit 60, o60 P) :: (nat_lit 61, o61 P) :: (nat_lit 62, o62 P) :: (nat_lit 63, o63 P) :: (nat_lit 64, o64 P) :: (nat_lit 65, o65 P) :: (nat_lit 66, o66 P) :: (nat_lit 67, o67 P) :: (nat_lit 68, o68 P) :: (nat_lit 69, o69 P) :: (nat_lit 70, o70 P) :: (nat_lit 71, o71 P) :: (nat_lit 72, o72 P) :: (nat_lit 73, o73 P) :: (nat_lit 74, o74 P) :: (nat_lit 75, o75 P) :: (nat_lit 76, o76 P) :: (nat_lit 77, o77 P) :: (nat_lit 78, o78 P) :: (nat_lit 79, o79 P) :: (nat_lit 80, o80 P) :: (nat_lit 81, o81 P) :: (nat_lit 82, o82 P) :: (nat_lit 83, o83 P) :: (nat_lit 84, o84 P) :: (nat_lit 85, o85 P) :: (nat_lit 86, o86 P) :: (nat_lit 87, o87 P) :: (nat_lit 88, o88 P) :: (nat_lit 89, o89 P) :: (nat_lit 90, o90 P) :: (nat_lit 91, o91 P) :: (nat_lit 92, o92 P) :: (nat_lit 93, o93 P) :: (nat_lit 94, o94 P) :: (nat_lit 95, o95 P) :: (nat_lit 96, o96 P) :: (nat_lit 97, o97 P) :: (nat_lit 98, o98 P) :: (nat_lit 99, o99 P) :: (nat_lit 100, o100 P) :: (nat_lit 101, o101 P) :: (nat_lit 102, o102 P) :: (nat_lit 103, o103 P) :: (nat_lit 104, o104 P) :: (nat_lit 105, o105 P) :: (nat_lit 106, o106 P) :: (nat_lit 107, o107 P) :: (nat_lit 108, o108 P) :: (nat_lit 109, o109 P) :: (nat_lit 110, o110 P) :: (nat_lit 111, o111 P) :: (nat_lit 112, o112 P) :: (nat_lit 113, o113 P) :: (nat_lit 114, o114 P) :: (nat_lit 115, o115 P) :: (nat_lit 116, o116 P) :: (nat_lit 117, o117 P) :: (nat_lit 118, o118 P) :: (nat_lit 119, o119 P) :: (nat_lit 120, o120 P) :: (nat_lit 121, o121 P) :: (nat_lit 122, o122 P) :: (nat_lit 123, o123 P) :: (nat_lit 124, o124 P) :: (nat_lit 125, o125 P) :: (nat_lit 126, o126 P) :: (nat_lit 127, o127 P) :: (nat_lit 128, o128 P) :: (nat_lit 129, o129 P) :: (nat_lit 130, o130 P) :: (nat_lit 131, o131 P) :: (nat_lit 132, o132 P) :: (nat_lit 133, o133 P) :: (nat_lit 134, o134 P) :: (nat_lit 135, o135 P) :: (nat_lit 136, o136 P) :: (nat_lit 137, o137 P) :: (nat_lit 138, o138 P) :: (nat_lit 139, o139 P) :: (nat_lit 140, o140 P) :: (nat_lit 141, o141 P) :: (nat_lit 180, o180 P) :: (nat_lit 181, o181 P) :: (nat_lit 182, o182 P) :: (nat_lit 183, o183 P) :: (nat_lit 184, o184 P) :: (nat_lit 185, o185 P) :: (nat_lit 186, o186 P) :: (nat_lit 187, o187 P) :: (nat_lit 188, o188 P) :: (nat_lit 189, o189 P) :: (nat_lit 190, o190 P) :: (nat_lit 191, o191 P) :: (nat_lit 192, o192 P) :: (nat_lit 193, o193 P) :: (nat_lit 194, o194 P) :: (nat_lit 195, o195 P) :: (nat_lit 196, o196 P) :: (nat_lit 197, o197 P) :: (nat_lit 198, o198 P) :: (nat_lit 199, o199 P) :: (nat_lit 200, o200 P) :: (nat_lit 201, o201 P) :: (nat_lit 202, o202 P) :: (nat_lit 203, o203 P) :: (nat_lit 204, o204 P) :: (nat_lit 205, o205 P) :: (nat_lit 206, o206 P) :: (nat_lit 207, o207 P) :: (nat_lit 208, o208 P) :: (nat_lit 209, o209 P) :: (nat_lit 210, o210 P) :: (nat_lit 211, o211 P) :: (nat_lit 212, o212 P) :: (nat_lit 213, o213 P) :: (nat_lit 214, o214 P) :: (nat_lit 215, o215 P) :: (nat_lit 216, o216 P) :: (nat_lit 217, o217 P) :: (nat_lit 218, o218 P) :: (nat_lit 219, o219 P) :: (nat_lit 220, o220 P) :: (nat_lit 221, o221 P) :: (nat_lit 222, o222 P) :: (nat_lit 223, o223 P) :: (nat_lit 224, o224 P) :: (nat_lit 225, o225 P) :: (nat_lit 226, o226 P) :: (nat_lit 227, o227 P) :: (nat_lit 228, o228 P) :: (nat_lit 229, o229 P) :: (nat_lit 230, o230 P) :: (nat_lit 231, o231 P) :: (nat_lit 232, o232 P) :: (nat_lit 233, o233 P) :: (nat_lit 234, o234 P) :: (nat_lit 235, o235 P) :: (nat_lit 236, o236 P) :: (nat_lit 237, o237 P) :: (nat_lit 238, o238 P) :: (nat_lit 239, o239 P) :: (nat_lit 240, o240 P) :: (nat_lit 241, o241 P) :: (nat_lit 242, o242 P) :: (nat_lit 243, o243 P) :: (nat_lit 244, o244 P) :: (nat_lit 245, o245 P) :: (nat_lit 246, o246 P) :: (nat_lit 247, o247 P) :: (nat_lit 248, o248 P) :: (nat_lit 249, o249 P) :: (nat_lit 250, o250 P) :: (nat_lit 251, o251 P) :: (nat_lit 252, o252 P) :: (nat_lit 253, o253 P) :: (nat_lit 254, o254 P) :: (nat_lit 255, o255 P) :: (nat_lit 256, o256 P) :: (nat_lit 257, o257 P) :: (nat_lit 258, o258 P) :: (nat_lit 259, o259 P) :: (nat_lit 260, o260 P) :: (nat_lit 261, o261 P) :: (nat_lit 262, o262 P) :: (nat_lit 263, o263 P) :: (nat_lit 264, o264 P) :: (nat_lit 265, o265 P) :: (nat_lit 266, o266 P) :: (nat_lit 267, o267 P) :: (nat_lit 268, o268 P) :: (nat_lit 269, o269 P) :: (nat_lit 270, o270 P) :: (nat_lit 271, o271 P) :: (nat_lit 272, o272 P) :: (nat_lit 273, o273 P) :: (nat_lit 274, o274 P) :: (nat_lit 275, o275 P) :: (nat_lit 276, o276 P) :: (nat_lit 277, o277 P) :: (nat_lit 278, o278 P) :: (nat_lit 279, o279 P) :: (nat_lit 280, o280 P) :: (nat_lit 281, o281 P) :: (nat_lit 282, o282 P) :: (nat_lit 283, o283 P) :: (nat_lit 284, o284 P) :: (nat_lit 285, o285 P) :: (nat_lit 286, o286 P) :: (nat_lit 287, o287 P) :: (nat_lit 288, o288 P) :: (nat_lit 289, o289 P) :: (nat_lit 290, o290 P) :: (nat_lit 291, o291 P) :: (nat_lit 292, o292 P) :: (nat_lit 293, o293 P) :: (nat_lit 294, o294 P) :: (nat_lit 295, o295 P) :: (nat_lit 296, o296 P) :: (nat_lit 297, o297 P) :: (nat_lit 298, o298 P) :: (nat_lit 299, o299 P) :: (nat_lit 300, o300 P) :: (nat_lit 301, o301 P) :: (nat_lit 302, o302 P) :: (nat_lit 303, o303 P) :: (nat_lit 304, o304 P) :: (nat_lit 305, o305 P) :: (nat_lit 306, o306 P) :: (nat_lit 307, o307 P) :: (nat_lit 308, o308 P) :: (nat_lit 309, o309 P) :: (nat_lit 310, o310 P) :: (nat_lit 311, o311 P) :: (nat_lit 312, o312 P) :: (nat_lit 313, o313 P) :: (nat_lit 314, o314 P) :: (nat_lit 315, o315 P) :: (nat_lit 316, o316 P) :: (nat_lit 317, o317 P) :: (nat_lit 318, o318 P) :: (nat_lit 319, o319 P) :: (nat_lit 320, o320 P) :: (nat_lit 321, o321 P) :: (nat_lit 322, o322 P) :: (nat_lit 323, o323 P) :: (nat_lit 324, o324 P) :: (nat_lit 325, o325 P) :: (nat_lit 326, o326 P) :: (nat_lit 327, o327 P) :: (nat_lit 328, o328 P) :: (nat_lit 329, o329 P) :: (nat_lit 330, o330 P) :: (nat_lit 331, o331 P) :: (nat_lit 332, o332 P) :: (nat_lit 333, o333 P) :: (nat_lit 334, o334 P) :: (nat_lit 335, o335 P) :: (nat_lit 336, o336 P) :: (nat_lit 337, o337 P) :: (nat_lit 338, o338 P) :: (nat_lit 339, o339 P) :: (nat_lit 340, o340 P) :: (nat_lit 341, o341 P) :: (nat_lit 342, o342 P) :: (nat_lit 343, o343 P) :: (nat_lit 344, o344 P) :: (nat_lit 345, o345 P) :: (nat_lit 346, o346 P) :: (nat_lit 347, o347 P) :: (nat_lit 348, o348 P) :: (nat_lit 349, o349 P) :: (nat_lit 350, o350 P) :: (nat_lit 351, o351 P) :: (nat_lit 352, o352 P) :: (nat_lit 353, o353 P) :: (nat_lit 354, o354 P) :: (nat_lit 355, o355 P) :: (nat_lit 356, o356 P) :: (nat_lit 357, o357 P) :: (nat_lit 358, o358 P) :: (nat_lit 359, o359 P) :: (nat_lit 360, o360 P) :: (nat_lit 361, o361 P) :: (nat_lit 362, o362 P) :: (nat_lit 363, o363 P) :: (nat_lit 364, o364 P) :: (nat_lit 365, o365 P) :: (nat_lit 366, o366 P) :: (nat_lit 367, o367 P) :: (nat_lit 368, o368 P) :: (nat_lit 369, o369 P) :: (nat_lit 370, o370 P) :: []
noncomputable def asV : List Addr := [0, 1, 2, 3, 4, 5, 6, 7, 8, 9, 10, 11, 12, 13, 14, 15, 16, 17, 18, 19, 20, 21, 22, 23, 24, 25, 26, 27, 28, 29, 30, 31, 32, 33, 34, 35, 36, 37, 38, 39, 40, 41, 42, 43, 44, 45, 46, 47, 48, 49, 50, 51, 52, 53, 54, 55, 56, 57, 58, 59, 60, 61, 62, 63, 64, 65, 66, 67, 68, 69, 70, 71, 72, 73, 74, 75, 76, 77, 78, 79, 80, 81, 82, 83, 84, 85, 86, 87, 88, 89, 90, 91, 92, 93, 94, 95, 96, 97, 98, 99, 100, 101, 102, 103, 104, 105, 106, 107, 108, 109, 110, 111, 112, 113, 114, 115, 116, 117, 118, 119, 120, 121, 122, 123, 124, 125, 126, 127, 128, 129, 130, 131, 132, 133, 134, 135, 136, 137, 138, 139, 140, 141, 180, 181, 182, 183, 184, 185, 186, 187, 188, 189, 190, 191, 192, 193, 194, 195, 196, 197, 198, 199, 200, 201, 202, 203, 204, 205, 206, 207, 208, 209, 210, 211, 212, 213, 214, 215, 216, 217, 218, 219, 220, 221, 222, 223, 224, 225, 226, 227, 228, 229, 230, 231, 232, 233, 234, 235, 236, 237, 238, 239, 240, 241, 242, 243, 244, 245, 246, 247, 248, 249, 250, 251, 252, 253, 254, 255, 256, 257, 258, 259, 260, 261, 262, 263, 264, 265, 266, 267, 268, 269, 270, 271, 272, 273, 274, 275, 276, 277, 278, 279, 280, 281, 282, 283, 284, 285, 286, 287, 288, 289, 290, 291, 292, 293, 294, 295, 296, 297, 298, 299, 300, 301, 302, 303, 304, 305, 306, 307, 308, 309, 310, 311, 312, 313, 314, 315, 316, 317, 318, 319, 320, 321, 322, 323, 324, 325, 326, 327, 328, 329, 330, 331, 332, 333, 334, 335, 336, 337, 338, 339, 340, 341, 342, 343, 344, 345, 346, 347, 348, 349, 350, 351, 352, 353, 354, 355, 356, 357, 358, 359, 360, 361, 362, 363, 364, 365, 366, 367, 368, 369, 370]
noncomputable def YfV (s : Shared) : List (Option Obj) := asV.map s.heap.get?
noncomputable def YaV (w : World) : List (Option Obj) := (K0 w.params).map fun p => some p.2
theorem as_eq (P : Params) : asV = (K0 P).map (·.1) := by kernel_rfl
theorem look5 (w : World) (os : OsState) : YfV ⟨H1V w.params, ⟨[]⟩, ⟨0, 0, 0, 0⟩, 2735, os⟩ = YaV w := by kernel_rfl
noncomputable def NN : Nat := nRun + 800
theorem left_ : LeftO PySem.Challenge.pw_wk0051_01 QV LV XtV YfV YaV NN := by
  rw [pw_eq]
  refine LeftO.of_pieces (H₀ := H0V) (H₁ := H1V) (gs₀ := ⟨[]⟩) (gs₁ := ⟨[]⟩) (d₀ := ⟨0, 0, 0, 0⟩) (d₁ := ⟨0, 0, 0, 0⟩) (k₀ := 276) (k₁ := 2735) (m₀ := 28) (ann := annP) (M := nRun) ?_ ?_ (fun w os => topRun_all w os) (Nat.ble_eq_true_of_le (Nat.le_add_right _ _)) ?_
  · refine open_cut (M := 800) (He := fun P => absHeap (T98 P) 28 {}) (ge := ⟨[]⟩) (de := ⟨0, 0, 0, 0⟩) (ke := 276) (fun w => ?_) (Nat.ble_eq_true_of_le (Nat.le_add_left _ _)) (fun w => ?_)
    · have h := imp_run w
      rw [tbQ_eq, show PySem.W.Fast.tw10274390034422433532 = @importEnds from PySem.W.Fast.te10274390034422433532.symm, show PySem.W.Fast.tw1435165496053646825 = @start from PySem.W.Fast.te1435165496053646825.symm] at h
      exact h
    · funext os
      have h := fence_run w os
      rw [show PySem.W.Fast.tw14289696077712309145 = @fenceModules? from PySem.W.Fast.te14289696077712309145.symm] at h
      exact h
  · intro w
    kernel_rfl
  · intro w
    funext os
    have h := look4 w os
    rw [show PySem.W.Fast.tw4187177175401517315 = @openSeen from PySem.W.Fast.te4187177175401517315.symm] at h
    rw [look1 w, look2 w, look3 w, h, look5 w os]
    rfl
abbrev rowV : OpenRow := PySem.Challenge.rw_wk0051_01.row
noncomputable def dLaw : DefRec := ⟨"law", (fnA 22).1, (fnA 22).2.1, (fnA 22).2.2, ⟨195, 0, 210, 130⟩⟩
theorem def_law : defOf QV rowV.name = some (dLaw, []) := by kernel_rfl
theorem the_def : PW.theDef rowV.name = some (dLaw.params, dLaw.body, dLaw.scope) := by kernel_rfl
noncomputable def YPV (w : World) (h : Heap) : Prop := InK K0 w h
theorem ok1 : chainsOk QV = true := by decide +kernel
theorem ok3 : (frees rowV.toRowW && rowV.within.isEmpty) = true := by decide +kernel
theorem ok2 : opensWell rowV.prog = true := by
  show opensWell PySem.Challenge.pw_wk0051_01 = true
  rw [pw_eq]
  decide +kernel
theorem andI {a b : Bool} (x : a = true) (y : b = true) : (a && b) = true := by rw [x, y]; rfl
theorem law_said : PySem.Challenge.rw_wk0051_01.wellSaid = true := by
  show OpenLaw.wellSaid { prog := PySem.Challenge.pw_wk0051_01, name := Str.ofString "law", about := [Str.ofString "_Accumulator", Str.ofString "push"], foot := 6, most := some 63, bound := none, writes := false } = true
  rw [pw_eq]
  delta OpenLaw.wellSaid
  delta OpenRow.wellSaid
  delta OpenRow.partSaid
  delta looksOpen
  repeat' (with_reducible apply andI)
  all_goals first | k_qdec | decide +kernel
theorem hw_ : rowV.toRowW.promised := ⟨[.list []], by decide +kernel, by decide +kernel⟩
theorem head_ (said : rowV.wellSaid = true) (walk : WalkO QV LV (XL QV []) YPV rowV.toRowW dLaw [] fun f vs => PySem.call f vs) (hw : rowV.toRowW.promised) : rowV.Holds := by
  refine holds_open (q := QV) (loose := LV) (Xt := XtV) (XP := XL QV []) (Yf := YfV) (Ya := YaV) (YP := YPV) (d := dLaw) (kwd := []) (N := NN) left_ (InK.of (fun P => as_eq P)) InK.keeps
    (fun s e => xl_of s (Bool.and_eq_true_iff.mp e).1) XL.keeps def_law ?_ (by kernel_rfl) (fun s e => recFacts_of (Bool.and_eq_true_iff.mp e).2) (by rfl) said ?_ ⟨rfl, rfl, rfl, rfl, rfl, by decide +kernel⟩ hw walk
  · show PySem.Challenge.pw_wk0051_01.theDef rowV.name = _
    rw [pw_eq]
    exact the_def
  · rw [ok1, ok2, ok3]; rfl
end Mine
end
noncomputable section
open PySem PySem.W PySem.Spec PySem.Calls PyProof.Rows
set_option maxRecDepth 100000
namespace Mine
structure Rst where
  gens : Array GenState
  drawn : Drawn
  os : OsState
abbrev stt (r : Rst) (h : Heap) (t : Nat) : Shared := ⟨h, r.gens, r.drawn, t, r.os⟩
noncomputable abbrev Md (w : World) : Model := model PW w
abbrev Post (r : Rst) {α : Type} (Q : α → Heap → Prop) : α → Shared → Prop := fun a s => ∃ h' tk', s = stt r h' tk' ∧ Q a h'
structure Wp (w : World) (r : Rst) (A : Around) {α : Type} (t : Sem α) (Q : α → Heap → Prop) (h : Heap) : Prop where
  run : ∀ E tk, wpAny (Md w) A t (Post r Q) E (stt r h tk)
section
variable {w : World} {r : Rst} {A : Around} {α β : Type} {h : Heap} {E : Value → Shared → Prop} {tk : Nat}
theorem Wp.into {t : Sem α} {Q : α → Heap → Prop} {Q' : α → Shared → Prop} (p : Wp w r A t Q h) (k : ∀ a h' tk', Q a h' → Q' a (stt r h' tk')) : wpAny (Md w) A t Q' E (stt r h tk) :=
  wpAny_mono (p.run E tk) (fun a s x => by obtain ⟨h', tk', e, q⟩ := x; subst e; exact k a h' tk' q) (fun _ _ e => e)
theorem Wp.mono {t : Sem α} {Q Q' : α → Heap → Prop} (p : Wp w r A t Q h) (k : ∀ a h', Q a h' → Q' a h') : Wp w r A t Q' h := ⟨fun _ _ => p.into fun a h' tk' q => ⟨h', tk', rfl, k a h' q⟩⟩
theorem Wp.pure {a : α} {Q : α → Heap → Prop} (q : Q a h) : Wp w r A (pure a) Q h := ⟨fun _ tk => wpAny_pure ⟨h, tk, rfl, q⟩⟩
theorem Wp.bind {m : Sem α} {f : α → Sem β} {Q : β → Heap → Prop} (p : Wp w r A m (fun a h' => Wp w r A (f a) Q h') h) : Wp w r A (m >>= f) Q h := ⟨fun E _ => wpAny_bind (p.into fun _ _ tk' q => q.run E tk')⟩
theorem Wp.eq {t : Sem α} {a : α} {Q : α → Heap → Prop} (e : t = Pure.pure a) (q : Q a h) : Wp w r A t Q h := by subst e; exact .pure q
theorem Wp.look {t : Sem α} {a : α} {Q : α → Heap → Prop} (L : Looks (Md w) h t a) (q : Q a h) : Wp w r A t Q h := ⟨fun _ tk => L.at ⟨h, tk, rfl, q⟩⟩
theorem Wp.load {a : Addr} {p : Option Value} {o : Obj} {Q : Obj → Heap → Prop} (e : h.get? a = some o) (q : Q o h) : Wp w r A (loadPart a p) Q h := ⟨fun _ tk => wpAny_loadPart (s := stt r h tk) e ⟨h, tk, rfl, q⟩⟩
theorem Wp.holding {t : Sem α} {vs : List Value} {Q : α → Heap → Prop} (p : Wp w r A t Q h) : Wp w r A (holding vs t) Q h := ⟨fun E tk => wpAny_holding (p.run E tk)⟩
theorem Wp.rule {tag : String} {Q : Unit → Heap → Prop} (q : Q () h) : Wp w r A (PySem.rule tag) Q h := ⟨fun _ tk => wpAny_rule ⟨h, tk, rfl, q⟩⟩
theorem Wp.standAt {p : Pos} {Q : Unit → Heap → Prop} (q : Q () h) : Wp w r A (PySem.standAt p) Q h := ⟨fun _ tk => wpAny_standAt ⟨h, tk, rfl, q⟩⟩
theorem Wp.point {Q : Unit → Heap → Prop} (q : Q () h) : Wp w r A PySem.point Q h := ⟨fun _ tk => wpAny_point ⟨h, tk, rfl, q⟩⟩
theorem Wp.alloc {o : Obj} {Q : Addr → Heap → Prop} (q : Q h.objs.size (h.push o)) : Wp w r A (PySem.alloc o) Q h := ⟨fun _ tk => wpAny_alloc (s := stt r h tk) ⟨_, tk, rfl, q⟩⟩
theorem Wp.of {t : Sem α} {Q : α → Heap → Prop} (k : ∀ E tk, wpAny (Md w) A t (Post r Q) E (stt r h tk)) : Wp w r A t Q h := ⟨k⟩
end
def Ext (W : List Addr) (h h' : Heap) : Prop := ∀ b o, b ∉ W → h.get? b = some o → h'.get? b = some o
abbrev Kp (h h' : Heap) : Prop := ∀ b o, h.get? b = some o → h'.get? b = some o
theorem Ext.refl (W : List Addr) (h : Heap) : Ext W h h := fun _ _ _ e => e
theorem Ext.of {h h' : Heap} (k : Kp h h') (W : List Addr) : Ext W h h' := fun b o _ e => k b o e
theorem Ext.kp {h h' : Heap} (x : Ext [] h h') : Kp h h' := fun b o e => x b o (by simp) e
theorem Ext.trans {W : List Addr} {h h' h'' : Heap} (x : Ext W h h') (y : Ext W h' h'') : Ext W h h'' := fun b o n e => y b o n (x b o n e)
theorem Ext.mono {W W' : List Addr} {h h' : Heap} (x : Ext W h h') (s : ∀ b ∈ W, b ∈ W') : Ext W' h h' := fun b o n e => x b o (fun q => n (s b q)) e
theorem Ext.drop {W W' : List Addr} {h h' : Heap} (x : Ext W h h') (s : ∀ b ∈ W, b ∈ W' ∨ h.get? b = none) : Ext W' h h' := fun b o n e => x b o (fun q => (s b q).elim n fun z => by rw [z] at e; cases e) e
theorem Ext.push {W : List Addr} {h h' : Heap} (x : Ext W h h') (o : Obj) : Ext W h (h'.push o) := fun b o' n e => Heap.get?_push_of_some o (x b o' n e)
theorem Ext.sameBut {a : Addr} {h h' : Heap} (x : Heap.SameBut a h h') : Ext [a] h h' := fun b o n e => (x.2 b (fun q => n (by rw [q]; exact .head _))).trans e
theorem Ext.upd (h : Heap) (a : Addr) (f : Obj → Obj) : Ext [a] h (h.update a f) := Ext.sameBut (Heap.SameBut.update ..)
theorem kpush (h : Heap) (o : Obj) : Kp h (h.push o) := fun _ _ e => Heap.get?_push_of_some o e
theorem fresh_none {g h : Heap} (k : Kp g h) : g.get? h.objs.size = none := by
  cases q : g.get? h.objs.size with
  | none => rfl
  | some o => exact absurd (Heap.lt_size (k _ _ q)) (Nat.lt_irrefl _)
theorem none_of_ext {W : List Addr} {g h : Heap} (x : Ext W g h) {a : Addr} (n : a ∉ W) (e : h.get? a = none) : g.get? a = none := by
  cases q : g.get? a with
  | none => rfl
  | some o => have := x a o n q; rw [e] at this; cases this
structure Wd (w : World) (h : Heap) : Prop where
  X : (K0 w.params).In h
  lim : h.NoLimit
  g : ∃ mg, h.Ns mainGlobals mg
  b : ∃ mb, h.Ns builtinsNs mb ∧ ∀ x : Str, x ≠ "__name__" → mb x = bootBuiltins x
theorem Wd.kp {w : World} {h h' : Heap} (D : Wd w h) (k : Kp h h') : Wd w h' :=
  ⟨fun a o e => k _ _ (D.X a o e), D.lim.keeps k, let ⟨m, x⟩ := D.g; ⟨m, x.keeps k⟩, let ⟨m, x, y⟩ := D.b; ⟨m, x.keeps k, y⟩⟩
structure At (g : Heap) (L : Addr) (P : List (Addr × Obj)) (h : Heap) (m : Str → Option Value) : Prop where
  ns : h.Ns L m
  kp : Kp g h
  out : g.get? L = none
  pin : ∀ p ∈ P, h.get? p.1 = some p.2 ∧ p.1 ≠ L ∧ g.get? p.1 = none
theorem At.ne {g h : Heap} {L a : Addr} {P : List (Addr × Obj)} {m : Str → Option Value} {o : Obj} (T : At g L P h m) (e : g.get? a = some o) : a ≠ L := by
  rintro rfl; rw [T.out] at e; cases e
theorem At.set {g h h' : Heap} {L : Addr} {P : List (Addr × Obj)} {m m' : Str → Option Value} (T : At g L P h m) (hn : h'.Ns L m') (hs : Heap.SameBut L h h') : At g L P h' m' :=
  ⟨hn, fun b o e => (hs.2 b (T.ne e)).trans (T.kp b o e), T.out, fun p hp => ⟨(hs.2 _ (T.pin p hp).2.1).trans (T.pin p hp).1, (T.pin p hp).2⟩⟩
theorem At.ext {g h h' : Heap} {L : Addr} {P : List (Addr × Obj)} {m : Str → Option Value} (T : At g L P h m) (x : Kp h h') : At g L P h' m := by
  obtain ⟨oL, a1, a2, hL, a3⟩ := T.ns
  exact ⟨⟨oL, a1, a2, x _ _ hL, a3⟩, fun b o e => x b o (T.kp b o e), T.out, fun p hp => ⟨x _ _ (T.pin p hp).1, (T.pin p hp).2⟩⟩
theorem At.anew {g h h' : Heap} {L : Addr} {P : List (Addr × Obj)} {m : Str → Option Value} {W : List Addr} (T : At g L P h m) (x : Ext W h h') (hW : ∀ a ∈ W, ∃ o, g.get? a = some o) :
    ∃ g', At g' L P h' m ∧ Ext W g g' ∧ (∀ a o, h.get? a = none ∨ a ∈ W → h'.get? a = some o → g'.get? a = some o) := by
  obtain ⟨oL, a1, a2, hL', a3⟩ := T.ns
  have nL : L ∉ W := fun q => let ⟨o, e⟩ := hW _ q; by rw [T.out] at e; cases e
  have nP : ∀ p ∈ P, p.1 ∉ W := fun p hp q => let ⟨o, e⟩ := hW _ q; by rw [(T.pin p hp).2.2] at e; cases e
  have nO : ∀ a o, g.get? a = some o → a ∉ L :: P.map (·.1) := fun a o e q => by
    rcases List.mem_cons.mp q with q | q
    · subst q; rw [T.out] at e; cases e
    · obtain ⟨p, hp, rfl⟩ := List.mem_map.mp q
      rw [(T.pin p hp).2.2] at e; cases e
  refine ⟨hideAll h' (L :: P.map (·.1)), ⟨⟨oL, a1, a2, x _ _ nL hL', a3⟩, fun b o e => of_hideAll _ e, hideAll_none _ (.head _), fun p hp => ⟨x _ _ (nP p hp) (T.pin p hp).1, (T.pin p hp).2.1, hideAll_none _ (.tail _ (List.mem_map_of_mem hp))⟩⟩,
    fun b o n e => hideAll_get _ (x b o n (T.kp b o e)) (nO b o e), fun a o q e => hideAll_get _ e fun z => ?_⟩
  rcases q with q | q
  · rcases List.mem_cons.mp z with z | z
    · subst z; rw [hL'] at q; cases q
    · obtain ⟨p, hp, rfl⟩ := List.mem_map.mp z
      rw [(T.pin p hp).1] at q; cases q
  · obtain ⟨o', e'⟩ := hW _ q
    exact nO a o' e' z
theorem At.anew0 {g h h' : Heap} {L : Addr} {P : List (Addr × Obj)} {m : Str → Option Value} (T : At g L P h m) (x : Kp h h') :
    ∃ g', At g' L P h' m ∧ Kp g g' ∧ (∀ a o, h.get? a = none → h'.get? a = some o → g'.get? a = some o) := by
  obtain ⟨g', T', x', n⟩ := T.anew (Ext.of x []) (fun _ q => nomatch q)
  exact ⟨g', T', x'.kp, fun a o e e' => n a o (.inl e) e'⟩
structure Room (A : Around) (k : Nat) : Prop where
  depth : A.depth + k < recursionLimit
  units : A.units + 8 * k < cLine
  handled : A.handled = none
theorem Room.deeper {A : Around} {k : Nat} (r : Room A (k + 1)) (env : Env) : Room (A.deeper env) k :=
  ⟨by have := r.depth; rw [depth_deeper]; omega, by have := r.units; rw [units_deeper]; omega, r.handled⟩
theorem Room.less {A : Around} {k : Nat} (r : Room A (k + 1)) : Room A k := ⟨by have := r.depth; omega, by have := r.units; omega, r.handled⟩
theorem Room.le {A : Around} {k j : Nat} (r : Room A k) (h : j ≤ k) : Room A j := ⟨by have := r.depth; omega, by have := r.units; omega, r.handled⟩
theorem Room.in1 {A : Around} {k : Nat} (r : Room A (k + 1)) : Room A.in1 k := ⟨by have := r.depth; show A.depth + k < _; omega, by have := r.units; rw [units_in1]; omega, r.handled⟩
section
variable {w : World} {r : Rst} {A : Around} {g h : Heap} {L a : Addr} {P : List (Addr × Obj)} {m : Str → Option Value} {cn : Str} {cs : Scope} {ccd : Value} {cl : List (Str × Addr)} {x : Str} {pos : Pos} {v : Value} {Q : Value → Heap → Prop}
theorem nmK (D : Wd w g) (T : At g L P h m) (e : ∀ P, nsIn (K0 P) mainGlobals x = some (some v)) (q : Q v h)
    (hk : cs.kind = .function := by rfl) (hx : (envX cn cs L a ccd cl).kindOf x = some .globalImplicit := by rfl) (hd : (x == ("__debug__" : Str)) = false := by decide) :
    Wp w r A (eval (.Name x pos) (envX cn cs L a ccd cl)) Q h :=
  let ⟨_, G⟩ := D.g
  ⟨fun _ tk => Name_function_global hk hx (loadGlobal_global (s := stt r h tk) (env := envX cn cs L a ccd cl) (G.keeps T.kp) (mg_of D.X G (e _)) ⟨h, tk, rfl, q⟩) hd⟩
theorem nmB (D : Wd w g) (T : At g L P h m) (e : ∀ P, nsIn (K0 P) mainGlobals x = some none) (hv : bootBuiltins x = some v) (q : Q v h) (hn : x ≠ "__name__" := by decide)
    (hk : cs.kind = .function := by rfl) (hx : (envX cn cs L a ccd cl).kindOf x = some .globalImplicit := by rfl) (hd : (x == ("__debug__" : Str)) = false := by decide) :
    Wp w r A (eval (.Name x pos) (envX cn cs L a ccd cl)) Q h :=
  let ⟨_, G⟩ := D.g
  let ⟨_, b, hb⟩ := D.b
  ⟨fun _ tk => Name_function_global hk hx (loadGlobal_builtin (s := stt r h tk) (env := envX cn cs L a ccd cl) (G.keeps T.kp) (mg_none_of D.X G (e _)) (b.keeps T.kp) ((hb x hn).trans hv) ⟨h, tk, rfl, q⟩) hd⟩
theorem nmL (T : At g L P h m) (hv : m x = some v) (q : Q v h)
    (hk : cs.kind = .function := by rfl) (hx : (envX cn cs L a ccd cl).kindOf x = some .local := by rfl) (hd : (x == ("__debug__" : Str)) = false := by decide) :
    Wp w r A (eval (.Name x pos) (envX cn cs L a ccd cl)) Q h := ⟨fun _ tk => wpAny_Name (wpAny_loadName_local (s := stt r h tk) hk hx T.ns hv ⟨h, tk, rfl, q⟩) hd⟩
theorem ldL (T : At g L P h m) (hv : m x = some v) (q : Q v h)
    (hk : cs.kind = .function := by rfl) (hx : (envX cn cs L a ccd cl).kindOf x = some .local := by rfl) :
    Wp w r A (loadName (envX cn cs L a ccd cl) x) Q h := ⟨fun _ tk => wpAny_loadName_local (s := stt r h tk) hk hx T.ns hv ⟨h, tk, rfl, q⟩⟩
theorem stL {Q : Unit → Heap → Prop} (T : At g L P h m) (q : ∀ h', At g L P h' (fun y => if y = x then some v else m y) → Q () h')
    (hk : cs.kind = .function := by rfl) (hx : (envX cn cs L a ccd cl).kindOf x = some .local := by rfl) : Wp w r A (storeName (envX cn cs L a ccd cl) x v) Q h :=
  ⟨fun _ tk => wpAny_storeName_local (s := stt r h tk) hx T.ns (fun h' hn hs => ⟨h', tk + 1, rfl, q h' (T.set hn hs)⟩) (by show (cs.kind == .class || (cs.kind == .module && L != mainGlobals)) = false; rw [hk]; rfl)⟩
end
section
variable {w : World} {r : Rst} {A : Around} {h : Heap} {env : Env}
theorem s_nil {Q : Flow → Heap → Prop} (q : Q .next h) : Wp w r A (execs [] env) Q h := ⟨fun _ tk => wpAny_execs_nil ⟨h, tk, rfl, q⟩⟩
theorem s_cons {st : Stmt} {rest : List Stmt} {Q : Flow → Heap → Prop} (p : Wp w r A (exec st env) (fun f h' => match f with | .next => Wp w r A (execs rest env) Q h' | f => Q f h') h) : Wp w r A (execs (st :: rest) env) Q h :=
  ⟨fun E _ => wpAny_execs_cons (p.into fun f h' tk' q => by cases f <;> first | exact q.run E tk' | exact ⟨h', tk', rfl, q⟩)⟩
theorem s_expr {e : Expr} {pos : Pos} {Q : Flow → Heap → Prop} (p : Wp w r A (eval e env) (fun _ => Q .next) h)
    (hi : interactive env = false := by rfl) (hs : swapsWith e none pos.line env = pure false := by rfl) : Wp w r A (exec (.Expr e pos) env) Q h :=
  ⟨fun _ _ => wpAny_Expr_any (p.into fun _ h' tk' q => ⟨h', tk', rfl, q⟩) hi hs⟩
theorem s_asg {x : Str} {pos' pos : Pos} {value : Expr} {Q : Flow → Heap → Prop} (p : Wp w r A (eval value env) (fun v h₁ => Wp w r A (storeName env x v) (fun _ => Q .next) h₁) h)
    (hs : swapsWith value (some (.Name x pos')) pos.line env = pure false := by rfl) : Wp w r A (exec (.Assign [.Name x pos'] value pos) env) Q h :=
  ⟨fun _ _ => wpAny_Assign_Name (p.into fun _ _ _ q => q.into fun _ h' tk' q => ⟨h', tk', rfl, q⟩) hs⟩
theorem s_aug {x : Str} {pos' pos : Pos} {op : Operator} {value : Expr} {Q : Flow → Heap → Prop}
    (p : Wp w r A (loadName env x) (fun old h₁ => Wp w r A (eval value env) (fun v h₂ => Wp w r A (inplaceOp op old v) (fun n h₃ => Wp w r A (storeName env x n) (fun _ => Q .next) h₃) h₂) h₁) h) : Wp w r A (exec (.AugAssign (.Name x pos') op value pos) env) Q h :=
  ⟨fun _ _ => wpAny_AugAssign_Name (p.into fun _ _ _ q => q.into fun _ _ _ q => q.into fun _ _ _ q => q.into fun _ h' tk' q => ⟨h', tk', rfl, q⟩)⟩
theorem s_if {test : Expr} {body orelse : List Stmt} {pos : Pos} {Q : Flow → Heap → Prop}
    (p : Wp w r A (isTrue test env (eval test env)) (fun b h₁ => if b then Wp w r A (execs body env) Q h₁ else Wp w r A (execs orelse env) Q h₁) h) : Wp w r A (exec (.If test body orelse pos) env) Q h :=
  ⟨fun E _ => wpAny_If (p.into fun b _ tk' q => by cases b <;> exact q.run E tk')⟩
theorem s_ret {e : Expr} {pos : Pos} {Q : Flow → Heap → Prop} (p : Wp w r A (eval e env) (fun v => Q (.ret v)) h) : Wp w r A (exec (.Return (some e) pos) env) Q h :=
  ⟨fun _ _ => wpAny_Return_some (p.into fun _ h' tk' q => ⟨h', tk', rfl, q⟩)⟩
theorem s_asgT {elts : List Expr} {k : Nat} {tpos pos : Pos} {value : Expr} {Q : Flow → Heap → Prop} (p : Wp w r A (eval value env) (fun v h₁ => Wp w r A (assign (.Tuple elts k tpos) env v) (fun _ => Q .next) h₁) h)
    (hs : swapsWithSole [.Tuple elts k tpos] value pos.line env = pure false := by rfl) (hw : swappedStores [.Tuple elts k tpos] value env = pure none := by rfl) : Wp w r A (exec (.Assign [.Tuple elts k tpos] value pos) env) Q h :=
  ⟨fun _ _ => Assign_Tuple (p.into fun _ _ _ q => q.into fun _ h' tk' q => ⟨h', tk', rfl, q⟩) hs hw⟩
end
section
variable {w : World} {r : Rst} {A : Around} {h : Heap} {env : Env} {Q : Value → Heap → Prop}
theorem e_int {i : Int} {k : Nat} {pos : Pos} (q : ∀ t, Q (.int i t) h) : Wp w r A (eval (.Constant (.int i) k pos) env) Q h := ⟨fun _ tk => wpAny_Constant_int ⟨h, tk + 1, rfl, q _⟩⟩
theorem e_str {x : Str} {k : Nat} {pos : Pos} (q : ∀ t, Q (.str x t) h) : Wp w r A (eval (.Constant (.str x) k pos) env) Q h := ⟨fun _ tk => Constant_str ⟨h, tk + 1, rfl, q _⟩⟩
theorem e_none {k : Nat} {pos : Pos} (q : Q .none h) : Wp w r A (eval (.Constant .none k pos) env) Q h := ⟨fun _ tk => wpAny_Constant_none ⟨h, tk, rfl, q⟩⟩
theorem e_bool {b : Bool} {k : Nat} {pos : Pos} (q : Q (.bool b) h) : Wp w r A (eval (.Constant (.bool b) k pos) env) Q h := ⟨fun _ tk => wpAny_Constant_bool ⟨h, tk, rfl, q⟩⟩
theorem e_bin {l rr : Expr} {op : Operator} {pos : Pos} (p : Wp w r A (eval l env) (fun a h₁ => Wp w r A (eval rr env) (fun b h₂ => Wp w r A (binaryOp op a b) Q h₂) h₁) h) : Wp w r A (eval (.BinOp l op rr pos) env) Q h :=
  ⟨fun E _ => wpAny_BinOp (p.into fun _ _ _ p => p.into fun _ _ tk p => p.run E tk)⟩
theorem e_cmp {l rr : Expr} {op : CmpOp} {pos : Pos} (p : Wp w r A (eval l env) (fun a h₁ => Wp w r A (eval rr env) (fun b h₂ => Wp w r A (compareOp op a b) Q h₂) h₁) h)
    (hm : behindInMarks op rr = false := by with_unfolding_all rfl) : Wp w r A (eval (.Compare l [op] [rr] pos) env) Q h :=
  ⟨fun E _ => wpAny_Compare1 (p.into fun _ _ _ p => p.into fun _ _ tk p => p.run E tk) hm⟩
theorem t_cmp {l rr : Expr} {op : CmpOp} {pos : Pos} {whole : Sem Value} {Q : Bool → Heap → Prop} (p : Wp w r A (eval l env) (fun a h₁ => Wp w r A (eval rr env) (fun b h₂ => Wp w r A (compareOp op a b) (fun c h₃ => Wp w r A (truthy c) Q h₃) h₂) h₁) h)
    (hm : behindInMarks op rr = false := by with_unfolding_all rfl) : Wp w r A (isTrue (.Compare l [op] [rr] pos) env whole) Q h :=
  ⟨fun E _ => wpAny_isTrue_Compare1 (p.into fun _ _ _ p => p.into fun _ _ _ p => p.into fun _ _ tk p => p.run E tk) hm⟩
theorem t_not {x : Expr} {pos : Pos} {whole : Sem Value} {Q : Bool → Heap → Prop} (p : Wp w r A (isTrue x env (eval x env)) (fun b h₁ => Q (!b) h₁) h) : Wp w r A (isTrue (.UnaryOp .Not x pos) env whole) Q h :=
  ⟨fun _ _ => wpAny_isTrue_Not (p.into fun _ h' tk' q => ⟨h', tk', rfl, q⟩)⟩
theorem t_bool {b : Bool} {Q : Bool → Heap → Prop} (q : Q b h) : Wp w r A (truthy (.bool b)) Q h := ⟨fun _ tk => wpAny_truthy_bool ⟨h, tk, rfl, q⟩⟩
theorem e_if {test body orelse : Expr} {pos : Pos} (p : Wp w r A (isTrue test env (eval test env)) (fun b h₁ => if b then Wp w r A (eval body env) Q h₁ else Wp w r A (eval orelse env) Q h₁) h) : Wp w r A (eval (.IfExp test body orelse pos) env) Q h :=
  ⟨fun E _ => wpAny_IfExp (p.into fun b _ tk' q => by cases b <;> exact q.run E tk')⟩
theorem e_sub {value slice : Expr} {pos : Pos} (p : Wp w r A (eval value env) (fun o h₁ => Wp w r A (eval slice env) (fun i h₂ => Wp w r A (subscriptTail value slice o i) Q h₂) h₁) h) : Wp w r A (eval (.Subscript value slice pos) env) Q h :=
  ⟨fun E _ => Subscript_ (p.into fun _ _ _ p => p.into fun _ _ tk p => p.run E tk)⟩
theorem e_tup {elts : List Expr} {k : Nat} {pos : Pos} (p : Wp w r A (spliced (backTo pos (starEach elts env))) (fun vs h₁ => Wp w r A (newTuple vs) Q h₁) h) : Wp w r A (eval (.Tuple elts k pos) env) Q h :=
  ⟨fun E _ => Tuple_ (p.into fun _ _ tk p => p.run E tk)⟩
theorem e_list {elts : List Expr} {pos : Pos} (p : Wp w r A (spliced (backTo pos (starEach elts env))) (fun vs h₁ => Wp w r A (newList vs) Q h₁) h) : Wp w r A (eval (.List elts pos) env) Q h :=
  ⟨fun E _ => List_ (p.into fun _ _ tk p => p.run E tk)⟩
abbrev tupO (vs : List Value) : Obj := { cls := .type "tuple", data := .seq vs.toArray }
abbrev listO (vs : List Value) (n : Nat := 0) : Obj := { cls := .type "list", data := .seq vs.toArray n }
theorem szLine : 2000 ≤ sizeLine := by decide +kernel
theorem n_tup {vs : List Value} (q : ∀ a h', Kp h h' → h.get? a = none → h'.get? a = some (tupO vs) → Q (.ref a) h') (hz : vs.length ≤ 2000 := by simp) : Wp w r A (newTuple vs) Q h :=
  ⟨fun _ tk => wpAny_newObj_type (s := stt r h tk) ⟨_, tk, rfl, q _ _ (kpush _ _) (fresh_none fun _ _ e => e) (Heap.get?_push_size _ rfl)⟩ (by show vs.toArray.size ≤ sizeLine; rw [List.size_toArray]; exact Nat.le_trans hz szLine)⟩
theorem n_list {vs : List Value} (q : ∀ a h', Kp h h' → h.get? a = none → h'.get? a = some (listO vs) → Q (.ref a) h') (hz : vs.length ≤ 2000 := by simp) : Wp w r A (newList vs) Q h :=
  ⟨fun _ tk => wpAny_newObj_type (s := stt r h tk) ⟨_, tk, rfl, q _ _ (kpush _ _) (fresh_none fun _ _ e => e) (Heap.get?_push_size _ rfl)⟩ (by show vs.toArray.size ≤ sizeLine; rw [List.size_toArray]; exact Nat.le_trans hz szLine)⟩
theorem a_nil {pos : Pos} {Q : List Value → Heap → Prop} (q : Q [] h) : Wp w r A (spliced (backTo pos (starEach [] env))) Q h := ⟨fun _ tk => args_nil ⟨h, tk, rfl, q⟩⟩
theorem a_cons {e : Expr} {rest : List Expr} {pos : Pos} {Q : List Value → Heap → Prop} (p : Wp w r A (eval e env) (fun v h₁ => Wp w r A (spliced (backTo pos (starEach rest env))) (fun vs h₂ => Q (v :: vs) h₂) h₁) h)
    (he : starEach (e :: rest) env = (false, eval e env) :: starEach rest env := by rfl) : Wp w r A (spliced (backTo pos (starEach (e :: rest) env))) Q h :=
  ⟨fun _ _ => args_cons (p.into fun _ _ _ p => p.into fun _ h' tk' q => ⟨h', tk', rfl, q⟩) he⟩
theorem c_fn {func : Expr} {args : List Expr} {pos : Pos} (p : Wp w r A (eval func env) (fun f h₁ => Wp w r A (callWith pos f [] (backTo pos (starEach args env)) []) Q h₁) h)
    (he : eval (.Call func args [] pos) env = (do callWith pos (← eval func env) [] (backTo pos (starEach args env)) (backToKw pos (keywordEach [] env))) := by rfl) : Wp w r A (eval (.Call func args [] pos) env) Q h :=
  ⟨fun E _ => Call_ (p.into fun _ _ tk p => p.run E tk) he⟩
theorem c_me {o : Expr} {name : Str} {apos pos : Pos} {args : List Expr} (p : ∀ pl : Sem Bool, Wp w r A (eval o env) (fun ov h₁ => Wp w r A (getMethod ov name pl) (fun fx h₂ => Wp w r A (callWith pos fx.1 fx.2 (backTo pos (starEach args env)) []) Q h₂) h₁) h)
    {pl : Sem Bool} (he : eval (.Call (.Attribute o name apos) args [] pos) env = (do
      let ov ← eval o env
      standAt apos.atName
      let (f, first) ← holding [ov] (getMethod ov name pl)
      callWith pos f first (backTo pos (starEach args env)) []) := by rfl) : Wp w r A (eval (.Call (.Attribute o name apos) args [] pos) env) Q h :=
  ⟨fun E _ => MethodCall_ (pl := pl) ((p pl).into fun _ _ _ p => p.into fun _ _ tk p => p.run E tk) he⟩
theorem w_bi0 {pos : Pos} {id : String} {first : List Value} (p : Wp w r A (call (.builtin id) first) Q h) : Wp w r A (callWith pos (.builtin id) first (backTo pos (starEach [] env)) []) Q h := ⟨fun E tk => callWith_method0 (p.run E tk)⟩
theorem w_bi {pos : Pos} {id : String} {first : List Value} {e : Expr} {rest : List Expr} (p : Wp w r A (spliced (backTo pos (starEach (e :: rest) env))) (fun vs h₁ => Wp w r A (call (.builtin id) (first ++ vs)) Q h₁) h)
    (he : starEach (e :: rest) env = (false, eval e env) :: starEach rest env := by rfl) (hplain : (backTo pos (starEach rest env)).any (·.1) = false := by rfl) : Wp w r A (callWith pos (.builtin id) first (backTo pos (starEach (e :: rest) env)) []) Q h :=
  ⟨fun E _ => callWith_method1 (p.into fun _ _ tk p => p.run E tk) he hplain⟩
theorem w_fn {g : Heap} {f : Addr} {pos : Pos} {first : List Value} {e : Expr} {rest : List Expr} (D : Wd w g) (hk : ∀ P, keepIn (K0 P) (.ref f) = true)
    (p : Wp w r A (spliced (backTo pos (starEach (e :: rest) env))) (fun vs h₁ => Kp g h₁ ∧ Wp w r A (call (.ref f) (first ++ vs)) Q h₁) h)
    (he : starEach (e :: rest) env = (false, eval e env) :: starEach rest env := by rfl) (hplain : (backTo pos (starEach rest env)).any (·.1) = false := by rfl) : Wp w r A (callWith pos (.ref f) first (backTo pos (starEach (e :: rest) env)) []) Q h :=
  ⟨fun E _ => callWith_K (K := K0 w.params) (h₀ := g) D.X (hk _) (p.into fun _ _ tk p => ⟨fun a o e => p.1 _ _ (D.X a o e), p.2.run E tk⟩) he hplain⟩
theorem w_fn0 {f : Addr} {pos : Pos} {first : List Value} (D : Wd w h) (hk : ∀ P, keepIn (K0 P) (.ref f) = true) (p : Wp w r A (call (.ref f) (first ++ [])) Q h) : Wp w r A (callWith pos (.ref f) first (backTo pos (starEach [] env)) []) Q h :=
  ⟨fun E tk => callWith_K0 (K := K0 w.params) D.X (hk _) (p.run E tk)⟩
end
theorem callF {w : World} {r : Rst} {A : Around} {h : Heap} {f : Addr} {o : Obj} {name qual : Str} {params : Arguments} {body : List Stmt} {scope : Scope} {cl : List (Str × Addr)} {dV kV doc pm cdv ct : Value} {an : Option Addr} {vals : List Value} {kw : List (Str × Value)} {binds : List (Str × Value)} {k : Nat} {Q : Value → Heap → Prop}
    (D : Wd w h) (R : Room A (k + 1)) (ho : (K0 w.params).lookup f = some o) (hd : o.data = .func (fnX name qual params body scope cl dV kV doc pm an cdv ct)) (hcd : codeIn (K0 w.params) cdv qual = true)
    (hbind : ∀ tk, BindsTo (stt r h tk) (fnX name qual params body scope cl dV kV doc pm an cdv ct) ⟨vals, kw⟩ binds) (hloc : (binds.all fun x => decide (scope.names.lookup x.1 = some .local)) = true)
    (p : ∀ L h₁, h.get? L = none → At h L [] h₁ (fun x => binds.reverse.lookup x) → Room (A.deeper (envX qual scope L f cdv cl)) k →
      Wp w r (A.deeper (envX qual scope L f cdv cl)) (execs body (envX qual scope L f cdv cl)) (fun fl h' => Q (match fl with | .ret v => v | _ => .none) h') h₁)
    (hcell : ∀ x ∈ scope.names, x.2 ≠ .cell) (hco : scope.isCoroutine = false) (hgen : scope.isGenerator = false) (hkf : scope.kind = .function) :
    Wp w r A (call (.ref f) vals kw) Q h := by
  refine ⟨fun E tk => wpAny_call (codeAny_call_def (s := stt r h tk) (fd := fnX name qual params body scope cl dV kV doc pm an cdv ct) (body := body) (binds := binds) (Nat.lt_of_le_of_lt (Nat.le_add_right _ _) R.depth) (D.X _ _ ho) hd D.lim (codeRec_of D.X hcd) rfl (hbind tk) hcell (locs hloc) (fun h₁ hn hk₁ => ?_) hco hgen hkf)⟩
  have L0 : h.get? h.objs.size = none := fresh_none fun _ _ e => e
  exact (p h.objs.size h₁ L0 ⟨hn, hk₁, L0, fun _ q => nomatch q⟩ (R.deeper _)).into fun fl h' tk' q => ⟨h', tk', rfl, q⟩
end Mine
end
noncomputable section
open PySem PySem.W PySem.Spec PySem.Calls PyProof.Rows
set_option maxRecDepth 100000
namespace Mine
theorem check_method {M : Model} {A : Around} {E : Value → Shared → Prop} {s : Shared} {i owner n : String} {self : Value} {rest : List Value} {kw : List (Str × Value)} {Q : Unit → Shared → Prop}
    (hk : builtinKind i = some .method) (hs : splitId i = some (owner, n)) (hi : Looks M s.heap (isInstance self (.type owner)) true) (ha : argsOk i ⟨self :: rest, kw⟩) (q : Q () s) :
    wpAny M A (checkBuiltinCall i ⟨self :: rest, kw⟩) Q E s := by
  simp only [checkBuiltinCall, hk, hs]
  refine wpAny_bind (hi.here ?_)
  simp only [Bool.not_true, Bool.false_eq_true, if_false]
  unfold argsOk at ha
  split
  · rename_i sig hsig
    rw [hsig] at ha
    exact wpAny_of_eq ha q
  · exact wpAny_pure q
section
variable {w : World} {r : Rst} {A : Around} {h : Heap} {Q : Value → Heap → Prop}
theorem c_meth {i owner n : String} {b : Builtin} {self : Value} {rest : List Value} (hq : plainId i = true) (hb : entryFor table i = some b) (hk : builtinKind i = some .method) (hs : splitId i = some (owner, n))
    (hi : Looks (Md w) h (isInstance self (.type owner)) true) (ha : argsOk i ⟨self :: rest, []⟩) (p : Wp w r A.in1 (b ⟨self :: rest, []⟩) (fun fin h' => ∃ v, fin = .done (.ret v) ∧ Q v h') h) : Wp w r A (call (.builtin i) (self :: rest)) Q h :=
  ⟨fun E tk => wpAny_call (codeAny_call_builtin hq hb (check_method (s := stt r h tk) hk hs hi ha (p.into fun fin h' tk' q => by obtain ⟨v, e, q⟩ := q; subst e; exact ⟨h', tk', rfl, q⟩)))⟩
theorem m_bi {K : Frag} {x C : Addr} {ox : Obj} {od : Option Obj} {name : Str} {pl : Sem Bool} {ga id T : String} {Q : Value × List Value → Heap → Prop} (X : K.In h) (I : InstAt h x ox C od) (hga : findIn K (.ref C) "__getattribute__" = some (some (.builtin ga)))
    (hcan : (Manifest.canonical ga != "object.__getattribute__") = false) (hk : findIn K (.ref C) "__getattr__" = some none)
    (hf : findIn K (.ref C) name = some (some (.builtin id))) (ht : typeOf (.builtin id) = pure (.type T)) (hT : (Value.type T != .type "function" && Value.type T != .type "method_descriptor" && Value.type T != .type "wrapper_descriptor") = false)
    (hs : shadowIn od name = some false) (q : Q (.builtin id, [.ref x]) h) : Wp w r A (getMethod (.ref x) name pl) Q h := by
  unfold getMethod specialOf
  refine .bind (.bind (.look I.type (.look (looks_findIn X hga) ?_)))
  dsimp only
  rw [hcan, if_neg (by decide)]
  refine .bind (.bind (.look I.type (.look (looks_findIn X hk) ?_)))
  refine .bind (.bind (.look I.type (.look (looks_findIn X hf) (.bind (.eq ht ?_)))))
  rw [if_neg (by rw [hT]; decide)]
  refine .bind (.load I.at_ ?_)
  have hd := I.dict
  cases e : ox.dict with
  | none => exact .bind (.rule (.pure q))
  | some dx =>
    cases od with
    | none => rw [e] at hd; exact hd.elim
    | some o =>
      rw [e] at hd
      obtain ⟨b, e1, e2⟩ := Option.map_eq_some_iff.mp hs
      refine .bind (.bind (.load hd ?_))
      rw [nsLook_of e1]
      refine .pure ?_
      rw [e2]
      exact .bind (.rule (.pure q))
theorem m_fn {K : Frag} {x C f : Addr} {ox : Obj} {od : Option Obj} {name : Str} {pl : Sem Bool} {ga : String} {Q : Value × List Value → Heap → Prop} (X : K.In h) (I : InstAt h x ox C od) (hga : findIn K (.ref C) "__getattribute__" = some (some (.builtin ga)))
    (hcan : (Manifest.canonical ga != "object.__getattribute__") = false) (hk : findIn K (.ref C) "__getattr__" = some none)
    (hf : findIn K (.ref C) name = some (some (.ref f))) (ht : typeIn K (.ref f) = some (.type "function"))
    (hs : shadowIn od name = some false) (q : Q (.ref f, [.ref x]) h) : Wp w r A (getMethod (.ref x) name pl) Q h := by
  unfold getMethod specialOf
  refine .bind (.bind (.look I.type (.look (looks_findIn X hga) ?_)))
  dsimp only
  rw [hcan, if_neg (by decide)]
  refine .bind (.bind (.look I.type (.look (looks_findIn X hk) ?_)))
  refine .bind (.bind (.look I.type (.look (looks_findIn X hf) (.bind (.look (looks_typeIn X ht) ?_)))))
  rw [if_neg (by decide +kernel)]
  refine .bind (.load I.at_ ?_)
  have hd := I.dict
  cases e : ox.dict with
  | none => exact .bind (.rule (.pure q))
  | some dx =>
    cases od with
    | none => rw [e] at hd; exact hd.elim
    | some o =>
      rw [e] at hd
      obtain ⟨b, e1, e2⟩ := Option.map_eq_some_iff.mp hs
      refine .bind (.bind (.load hd ?_))
      rw [nsLook_of e1]
      refine .pure ?_
      rw [e2]
      exact .bind (.rule (.pure q))
theorem u_seq {a : Addr} {c : Value} {d : Option Addr} {xs : Array Value} {n : Nat} {sl : Array (Option Value)} {f : Array Value → Array Value} {Q : Unit → Heap → Prop}
    (e : h.get? a = some ⟨c, d, .seq xs n, sl⟩) (q : ∀ h' n', Ext [a] h h' → h'.get? a = some ⟨c, d, .seq (f xs) n', sl⟩ → Q () h') (hz : xs.size ≤ 1000) (hz' : (f xs).size ≤ 1001) : Wp w r A (updateSeq a f) Q h := by
  refine ⟨fun E tk => wpAny_updateSeq (s := stt r h tk) e rfl ⟨_, tk, rfl, q _ _ (Mine.Ext.upd _ _ _) (Heap.get?_update_self _ e rfl)⟩ (Nat.le_trans hz (by decide +kernel)) (Nat.le_trans hz' (by decide +kernel))⟩
end
noncomputable def initS : Str := ⟨⟨[95, 105, 110, 105, 116, 105, 97, 108, 95, 115, 105, 122, 101]⟩⟩
noncomputable abbrev accD (w : World) (t t' : Tok) : Obj := dictOf [⟨kh w.params initS, .str initS t, .int 0 t'⟩] 1
structure Pile (w : World) (h : Heap) (p d : Addr) (vs : List Value) : Prop where
  obj : ∃ n, h.get? p = some ⟨.ref 118, some d, .seq vs.toArray n, #[]⟩
  dict : ∃ t t', h.get? d = some (accD w t t')
theorem Pile.ext {w : World} {h h' : Heap} {p d : Addr} {vs : List Value} {W : List Addr} (B : Pile w h p d vs) (x : Ext W h h') (n1 : p ∉ W) (n2 : d ∉ W) : Pile w h' p d vs :=
  ⟨let ⟨n, e⟩ := B.obj; ⟨n, x _ _ n1 e⟩, let ⟨t, t', e⟩ := B.dict; ⟨t, t', x _ _ n2 e⟩⟩
theorem Pile.inst {w : World} {h : Heap} {p d : Addr} {vs : List Value} (B : Pile w h p d vs) : ∃ n t t', InstAt h p ⟨.ref 118, some d, .seq vs.toArray n, #[]⟩ 118 (some (accD w t t')) :=
  let ⟨n, e⟩ := B.obj; let ⟨t, t', f⟩ := B.dict; ⟨n, t, t', e, rfl, rfl, f⟩
theorem acc_ga (P : Params) : findIn (K0 P) (.ref 118) "__getattribute__" = some (some (.builtin "list.__getattribute__")) := by kernel_rfl
theorem can_list : (Manifest.canonical "list.__getattribute__" != "object.__getattribute__") = false := canon_list_getattribute
theorem acc_gat (P : Params) : findIn (K0 P) (.ref 118) "__getattr__" = some none := by kernel_rfl
theorem acc_append (P : Params) : findIn (K0 P) (.ref 118) "append" = some (some (.builtin "list.append")) := by kernel_rfl
theorem acc_list (P : Params) : subIn (K0 P) (.ref 118) (.type "list") = some true := by kernel_rfl
theorem kind_append : builtinKind "list.append" = some .method := by rw [builtinKind_eq_fast]; decide +kernel
theorem split_append : splitId "list.append" = some ("list", "append") := by decide +kernel
theorem type_md (T : String) (h : T = "method_descriptor") : (Value.type T != .type "function" && Value.type T != .type "method_descriptor" && Value.type T != .type "wrapper_descriptor") = false := by subst h; decide +kernel
section
variable {w : World} {r : Rst} {A : Around} {h : Heap} {Q : Value → Heap → Prop} {p d : Addr} {vs : List Value} {v : Value}
theorem acc_append_call (X : (K0 w.params).In h) (B : Pile w h p d vs) (hz : vs.length ≤ 1000) (q : ∀ h', Ext [p] h h' → Pile w h' p d (vs ++ [v]) → Q .none h') (hd : d ≠ p) : Wp w r A (call (.builtin "list.append") [.ref p, v]) Q h := by
  obtain ⟨n, t, t', I⟩ := B.inst
  refine c_meth slot_list_append.plain entry_list_append kind_append split_append (I.type.andThen (looks_subIn X (acc_list _))) (args_list_append _ _) ?_
  show Wp w r _ (updateSeq p (·.push v) >>= fun _ => ret .none) _ h
  refine .bind (u_seq I.at_ (fun h' n' x e => .pure ⟨_, rfl, q h' x ⟨⟨n', ?_⟩, t, t', x _ _ (by simpa using hd) I.dict⟩⟩) (by simpa using hz) (by simpa using hz))
  rw [e]; simp
theorem push_ (D : Wd w h) (B : Pile w h p d vs) (hz : vs.length ≤ 1000) (hd : d ≠ p) {k : Nat} (R : Room A (k + 3)) {x y : Str} {tx ty : Tok}
    (q : ∀ h' T, Ext [p] h h' → h.get? T = none → h'.get? T = some (tupO [.str x tx, .str y ty]) → Pile w h' p d (vs ++ [.ref T]) → Q .none h') : Wp w r A (call (.ref 62) [.ref p, .str x tx, .str y ty]) Q h := by
  refine callF D R (o := o62 w.params) (by kernel_rfl) rfl (by kernel_rfl) (fun tk => BindsTo.of_eq rfl) (by rfl) (fun L h₁ hL T R => ?_) (by decide) rfl rfl rfl
  refine s_cons (s_expr (c_me (fun pl => nmL T rfl ?_)))
  have B1 := B.ext (Ext.of T.kp []) (by simp) (by simp)
  obtain ⟨n, t, t', I⟩ := B1.inst
  refine m_bi (D.kp T.kp).X I (acc_ga _) can_list (acc_gat _) (acc_append _) type_list_append (type_md _ rfl) rfl ?_
  refine w_bi (a_cons (e_tup (a_cons (nmL T rfl (a_cons (nmL T rfl (a_nil (n_tup fun a h₂ k₂ na e₂ => a_nil ?_))))))))
  refine acc_append_call (D.kp fun b o e => k₂ _ _ (T.kp _ _ e)).X (B.ext (Ext.of (fun b o e => k₂ _ _ (T.kp _ _ e)) []) (by simp) (by simp)) hz (fun h₃ x₃ B₃ => s_nil ?_) hd
  exact q h₃ a (fun b o n e => x₃ _ _ n (k₂ _ _ (T.kp _ _ e))) (none_of_ext (Ext.of T.kp []) (by simp) na) (x₃ _ _ (by
    rintro q
    simp only [List.mem_singleton] at q
    subst q
    obtain ⟨n, e⟩ := B.obj
    rw [T.kp _ _ e] at na; cases na) e₂) B₃
end
end Mine
end
noncomputable section
open PySem PySem.W PySem.Spec PySem.Calls PyProof.Rows
set_option maxRecDepth 100000
namespace Mine
theorem slot_wd : Slot "wrapper_descriptor" "__get__" "wrapper_descriptor.__get__" :=
  .of (owner := "wrapper_descriptor") (n := "__get__") (by rw [typeLookup_type, builtinLookup_eq_fast]; kernel_rfl) (by decide +kernel) (by decide +kernel) (by decide +kernel)
    (.inl (by decide +kernel)) (by rw [isSubtype_type]; kernel_rfl)
theorem entry_wd : entryFor table "wrapper_descriptor.__get__" = some Builtin.«wrapper_descriptor.__get__» := entryFor_of_tree (by kernel_rfl)
theorem args_wd (a b c : Value) : argsOk "wrapper_descriptor.__get__" ⟨[a, b, c], []⟩ := by unfold argsOk; kernel_rfl
theorem slot_mdg : Slot "method_descriptor" "__get__" "method_descriptor.__get__" :=
  .of (owner := "method_descriptor") (n := "__get__") (by rw [typeLookup_type, builtinLookup_eq_fast]; kernel_rfl) (by decide +kernel) (by decide +kernel) (by decide +kernel)
    (.inl (by decide +kernel)) (by rw [isSubtype_type]; kernel_rfl)
theorem entry_mdg : entryFor table "method_descriptor.__get__" = some Builtin.«method_descriptor.__get__» := entryFor_of_tree (by kernel_rfl)
theorem args_mdg (a b c : Value) : argsOk "method_descriptor.__get__" ⟨[a, b, c], []⟩ := by unfold argsOk; kernel_rfl
section
variable {w : World} {r : Rst} {A : Around} {h : Heap} {Q : Value → Heap → Prop}
abbrev boundO (T id : String) (x : Addr) : Obj := { cls := .type T, data := .fields #[.builtin id, .ref x] }
theorem c_slot {T id : String} {name : Str} {B : Builtin} {self : Value} {rest : List Value} (S : Slot T name id) (hT : ∀ tk, (stt r h tk).TypeIs self T) (hb : entryFor table id = some B) (ha : argsOk id ⟨self :: rest, []⟩)
    (p : Wp w r A.in1 (B ⟨self :: rest, []⟩) (fun fin h' => ∃ v, fin = .done (.ret v) ∧ Q v h') h) : Wp w r A (call (.builtin id) (self :: rest)) Q h :=
  ⟨fun E tk => wpAny_call_entry S (hT tk) hb (p.into fun fin h' tk' q => by obtain ⟨v, e, q⟩ := q; exact ⟨v, e, h', tk', rfl, q⟩) ha⟩
theorem wd_get {id owner : String} {x C : Addr} {tp : Value} {ox : Obj} (ht : typeOf (.builtin id) = pure (.type "wrapper_descriptor")) (hid : ".".intercalate (id.cutAt '.').dropLast = owner) (ex : h.get? x = some ox) (ec : ox.cls = .ref C)
    (hi : Looks (Md w) h (isSubtype (.ref C) (.type owner)) true)
    (q : ∀ a h', Kp h h' → h.get? a = none → h'.get? a = some (boundO "method-wrapper" id x) → Q (.ref a) h') : Wp w r A (call (.builtin "wrapper_descriptor.__get__") [.builtin id, .ref x, tp]) Q h := by
  refine c_slot slot_wd (fun _ => ht) entry_wd (args_wd _ _ _) ?_
  have hi' : Looks (Md w) h (isSubtype ox.cls (.type (".".intercalate (id.cutAt '.').dropLast))) true := by rw [hid, ec]; exact hi
  refine ⟨fun E tk => ?_⟩
  unfold Builtin.«wrapper_descriptor.__get__»
  repeat lk
  exact ⟨_, _, rfl, _, rfl, q _ _ (kpush _ _) (fresh_none fun _ _ e => e) (Heap.get?_push_size _ rfl)⟩
theorem mdg_get {id owner : String} {x C : Addr} {ox : Obj} (ht : typeOf (.builtin id) = pure (.type "method_descriptor")) (hn : Manifest.toldItsClass.contains id = false) (hid : ".".intercalate (id.cutAt '.').dropLast = owner) (ex : h.get? x = some ox) (ec : ox.cls = .ref C)
    (hi : Looks (Md w) h (isSubtype (.ref C) (.type owner)) true)
    (q : ∀ a h', Kp h h' → h.get? a = none → h'.get? a = some (boundO "builtin_function_or_method" id x) → Q (.ref a) h') : Wp w r A (call (.builtin "method_descriptor.__get__") [.builtin id, .ref x, .ref C]) Q h := by
  refine c_slot slot_mdg (fun _ => ht) entry_mdg (args_mdg _ _ _) ?_
  have hi' : Looks (Md w) h (isSubtype ox.cls (.type (".".intercalate (id.cutAt '.').dropLast))) true := by rw [hid, ec]; exact hi
  refine ⟨fun E tk => ?_⟩
  unfold Builtin.«method_descriptor.__get__»
  repeat lk
  rw [hn]
  repeat lk
  exact ⟨_, _, rfl, _, rfl, q _ _ (kpush _ _) (fresh_none fun _ _ e => e) (Heap.get?_push_size _ rfl)⟩
abbrev superO (D x C : Addr) : Obj := { cls := .type "super", dict := none, data := .fields #[.ref D, .ref x, .ref C], slots := #[] }
theorem super_ga {K : Frag} {so D x C : Addr} {id T gid : String} {l₀ l : List Value} {name : Str} {tk₀ : Tok} {P : Addr → Heap → Prop} (hso : h.get? so = some (superO D x C)) (hno : Looks (Md w) h (opaqueClassAbove (.ref C)) none)
    (hC : Looks (Md w) h (mroOf (.ref C)) l₀) (hl : (l₀.dropWhile (· != .ref D)).drop 1 = l) (X : K.In h) (hf : alongIn K name l = some (some (.builtin id))) (ht : typeOf (.builtin id) = pure (.type T))
    (hlk : typeLookup (.type T) "__get__" = pure (some (.builtin gid))) (hxC : x ≠ C) (hn : (name == ("__class__" : Str)) = false)
    (hg : Wp w r A (call (.builtin gid) [.builtin id, .ref x, .ref C]) (fun v h' => ∃ q, v = .ref q ∧ P q h') h) :
    Wp w r A (Builtin.«super.__getattribute__» ⟨[.ref so, .str name tk₀], []⟩) (fun fin h' => ∃ q, fin = .done (.ret (.ref q)) ∧ P q h') h := by
  have hne : (Value.ref x == Value.ref C) = false := by simp [hxC]
  have hdt : (superO D x C).data = .fields #[.ref D, .ref x, .ref C] := rfl
  have f0 : (#[.ref D, .ref x, .ref C] : Array Value)[0]? = some (.ref D) := rfl
  have f1 : (#[.ref D, .ref x, .ref C] : Array Value)[1]? = some (.ref x) := rfl
  have f2 : (#[.ref D, .ref x, .ref C] : Array Value)[2]? = some (.ref C) := rfl
  refine ⟨fun E tk => ?_⟩
  have hg' : ∀ {Q' : Value → Shared → Prop} {E'}, (∀ q h' tk', P q h' → Q' (.ref q) (stt r h' tk')) → wpAny (Md w) A (call (.builtin gid) [.builtin id, .ref x, .ref C]) Q' E' (stt r h tk) := fun k => hg.into fun v h' tk' z => by obtain ⟨q, e, z⟩ := z; subst e; exact k q h' tk' z
  unfold Builtin.«super.__getattribute__»
  repeat (first
    | (with_reducible refine wpAny_field hso hdt f0 ?_) | (with_reducible refine wpAny_field hso hdt f1 ?_) | (with_reducible refine wpAny_field hso hdt f2 ?_)
    | (with_reducible refine ks_wpAny_notOpaque hno ?_)
    | (with_reducible refine Looks.at hC ?_; rw [hl])
    | (refine ks_forIn_along X (fun _ _ => rfl) rfl ?_ hf)
    | (with_reducible refine wpAny_of_eq ht ?_)
    | (with_reducible refine wpAny_of_eq hlk ?_)
    | (with_reducible refine hg' fun q h' tk' z => ?_)
    | (simp only [hn, hne, Bool.or_false, Bool.false_eq_true, if_false])
    | wp_step
    | dsimp only)
  all_goals exact ⟨h', tk', rfl, q, rfl, z⟩
theorem m_super {K : Frag} {so D x C : Addr} {id T gid : String} {l₀ l : List Value} {name : Str} {pl : Sem Bool} {Q : Value × List Value → Heap → Prop} (hso : h.get? so = some (superO D x C)) (hno : Looks (Md w) h (opaqueClassAbove (.ref C)) none)
    (hC : Looks (Md w) h (mroOf (.ref C)) l₀) (hl : (l₀.dropWhile (· != .ref D)).drop 1 = l) (X : K.In h) (hf : alongIn K name l = some (some (.builtin id))) (ht : typeOf (.builtin id) = pure (.type T))
    (hlk : typeLookup (.type T) "__get__" = pure (some (.builtin gid))) (hxC : x ≠ C) (hn : (name == ("__class__" : Str)) = false)
    (hg : Wp w r A.in1 (call (.builtin gid) [.builtin id, .ref x, .ref C]) (fun v h' => ∃ q, v = .ref q ∧ Q (.ref q, []) h') h) : Wp w r A (getMethod (.ref so) name pl) Q h := by
  have hlk2 := PySem.F.ks_slot_super_ga.lookup
  have hcan := PySem.F.ks_canon_super_ga
  refine ⟨fun E tk => ?_⟩
  have hT : ∀ t', (stt r h t').TypeIs (.ref so) "super" := fun _ => ⟨_, hso, rfl⟩
  unfold getMethod
  refine wpAny_bind (wpAny_specialOf (hT _) hlk2 ?_)
  show wpAny _ _ (if (Manifest.canonical "super.__getattribute__" != "object.__getattribute__") = true then _ else _) _ _ _
  rw [if_pos hcan]
  unfold getAttr getAttrBy
  refine wpAny_bind (wpAny_bind (wpAny_mkText (wpAny_holding (wpAny_bind (wpAny_typeOf (hT _) (wpAny_bind (wpAny_of_eq hlk2 ?_)))))))
  show wpAny _ _ (getAttrByItsOwn (.ref so) (.str name tk) (.type "super") (.builtin "super.__getattribute__") true false) _ _ _
  unfold getAttrByItsOwn hookBefore callGetattribute boundAndCalled
  refine wpAny_bind (wpAny_of_eq (show (if onTheHeap (.type "super") then typeLookup (.type "super") "__getattr__" else pure none) = pure none from rfl) ?_)
  refine wpAny_bind (wpAny_attempt (wpAny_holding ?_))
  show wpAny _ _ (bindSpecial (.builtin "super.__getattribute__") (.ref so) >>= _) _ _ _
  refine wpAny_bind (wpAny_of_eq (PySem.F.ks_slot_super_ga.bind _) ?_)
  refine wpAny_mono (Q := fun v s' => ∃ q h' tk', v = .ref q ∧ s' = stt r h' tk' ∧ Q (.ref q, []) h') (E := fun _ _ => False)
    (wpAny_call_entry PySem.F.ks_slot_super_ga (hT _) PySem.F.ks_entry_super_ga ((super_ga (tk₀ := tk) hso hno hC hl X hf ht hlk hxC hn hg).into (tk := tk + 1) fun fin h' tk' z => ?_) (PySem.F.ks_gaArgs_super _ _)) (fun v s' hv => ?_) fun _ _ z => z.elim
  · obtain ⟨q, e, z⟩ := z
    exact ⟨_, e, q, h', tk', rfl, rfl, z⟩
  · obtain ⟨q, h', tk', e1, e2, z⟩ := hv
    subst e1 e2
    exact wpAny_pure (wpAny_pure ⟨h', tk', rfl, z⟩)
end
end Mine
end
noncomputable section
open PySem PySem.W PySem.Spec PySem.Calls PyProof.Rows
set_option maxRecDepth 100000
namespace Mine
structure WpA (w : World) (r : Rst) (A : Around) (c : Code) {α : Type} (t : Sem α) (Q : α → Heap → Prop) (h : Heap) : Prop where
  run : ∀ E tk, PySem.wpAt (Md w) A c t (Post r Q) E (stt r h tk)
section
variable {w : World} {r : Rst} {A : Around} {c : Code} {α : Type} {h : Heap} {env : Env} {E : Value → Shared → Prop} {tk : Nat}
theorem WpA.into {t : Sem α} {Q : α → Heap → Prop} {Q' : α → Shared → Prop} (p : WpA w r A c t Q h) (k : ∀ a h' tk', Q a h' → Q' a (stt r h' tk')) : PySem.wpAt (Md w) A c t Q' E (stt r h tk) :=
  PySem.wpAt_mono (p.run E tk) (fun a s x => by obtain ⟨h', tk', e, q⟩ := x; subst e; exact k a h' tk' q) (fun _ _ e => e)
theorem WpA.any {t : Sem α} {Q : α → Heap → Prop} (p : Wp w r A t Q h) : WpA w r A c t Q h := ⟨fun E tk => PySem.wpAt_of_wpAny (p.run E tk)⟩
theorem A_cons {st : Stmt} {rest : List Stmt} {Q : Flow → Heap → Prop} (p : Wp w r A (exec st env) (fun f h' => match f with | .next => WpA w r A c (execs rest env) Q h' | f => Q f h') h) : WpA w r A c (execs (st :: rest) env) Q h := by
  refine ⟨fun E tk => ?_⟩
  rw [execs_cons]
  refine PySem.wpAt_bind (PySem.wpAt_of_wpAny (p.into fun f h' tk' q => ?_))
  cases f with
  | next => exact q.run E tk'
  | _ => exact PySem.wpAt_of_wpAny (wpAny_pure ⟨h', tk', rfl, q⟩)
theorem A_last {st : Stmt} {Q : Flow → Heap → Prop} (p : WpA w r A c (exec st env) Q h) : WpA w r A c (execs [st] env) Q h :=
  ⟨fun E tk => ks_wpAt_execs_cons (p.into fun f h' tk' q => by
    cases f with
    | next => exact PySem.wpAt_of_wpAny (wpAny_execs_nil (Q := Post r Q) ⟨h', tk', rfl, q⟩)
    | _ => exact ⟨h', tk', rfl, q⟩)⟩
theorem A_ret {e : Expr} {pos : Pos} {Q : Flow → Heap → Prop} (p : WpA w r A c (eval e env) (fun v => Q (.ret v)) h) : WpA w r A c (exec (.Return (some e) pos) env) Q h :=
  ⟨fun _ _ => ks_wpAt_Return_some (p.into fun _ h' tk' q => ⟨h', tk', rfl, q⟩)⟩
theorem A_expr {e : Expr} {pos : Pos} {Q : Flow → Heap → Prop} (p : WpA w r A c (eval e env) (fun _ => Q .next) h)
    (hi : interactive env = false := by rfl) (hs : swapsWith e none pos.line env = pure false := by rfl) : WpA w r A c (exec (.Expr e pos) env) Q h :=
  ⟨fun _ _ => ks_wpAt_Expr_any (p.into fun _ h' tk' q => ⟨h', tk', rfl, q⟩) hi hs⟩
theorem A_me {o : Expr} {name : Str} {apos pos : Pos} {args : List Expr} {Q : Value → Heap → Prop} (p : ∀ pl : Sem Bool, WpA w r A c (attributeBase o name env (eval o env)) (fun ov h₁ => Wp w r A (getMethod ov name pl) (fun fx h₂ => Wp w r A (callWith pos fx.1 fx.2 (backTo pos (starEach args env)) []) Q h₂) h₁) h)
    {pl : Sem Bool} (he : eval (.Call (.Attribute o name apos) args [] pos) env = (do
      let ov ← attributeBase o name env (eval o env)
      standAt apos.atName
      let (f, first) ← holding [ov] (getMethod ov name pl)
      callWith pos f first (backTo pos (starEach args env)) []) := by rfl) : WpA w r A c (eval (.Call (.Attribute o name apos) args [] pos) env) Q h :=
  ⟨fun E _ => ks_wpAt_MethodCall (pl := pl) ((p pl).into fun _ _ _ p => p.into fun _ _ tk p => p.run E tk) he⟩
theorem boot_super : bootBuiltins ("super" : Str) = some (.type "super") := by kernel_rfl
theorem top_super : (PW.main.scope.names.lookup ("super" : Str)).isSome = false := by kernel_rfl
theorem file_ok : ((PW.main.file : Str) == s176) = true := by kernel_rfl
theorem g_super (P : Params) : nsIn (K0 P) mainGlobals "super" = some none := by kernel_rfl
theorem super_base {g : Heap} {P : List (Addr × Obj)} {L x C D cc cda f : Addr} {m : Str → Option Value} {body : List Stmt} {q : Str} {scope : Scope} {p0 p1 : Pos} {attr : Str} {whole : Sem Value} {of oc ox ocell : Obj} {odx : Option Obj} {fd : FuncData} {ar : Arg} {vs : Array Value} {tf : Tok} {cdD : ClassData} {Q : Value → Heap → Prop}
    (W : Wd w g) (T : At g L P h m) (hf : (K0 w.params).lookup f = some of) (hfd : of.data = .func fd) (hp : (fd.params.posonlyargs ++ fd.params.args).head? = some ar) (hv : m ar.arg = some (.ref x)) (I : InstAt h x ox C odx)
    (hcode : (K0 w.params).lookup cda = some oc) (hoc : oc.data = .fields vs) (hvs : vs[2]? = some (.str s176 tf)) (hcell : (K0 w.params).lookup cc = some ocell) (hcd : ocell.data = .cell (some (.ref D)))
    (hD : (K0 w.params).lookup D = some oD) (hDd : oD.data = .cls cdD) (hsub : mroIn (K0 w.params) C (.ref D) = some true) (hat : (attr == ("__class__" : Str)) = false)
    (hks : scope.names.lookup ("super" : Str) = some .globalImplicit) (hkc : scope.names.lookup ("__class__" : Str) = some .free) (hka : scope.names.lookup ar.arg = some .local) (hk : scope.kind = .function)
    (k : ∀ so h', Kp h h' → h.get? so = none → h'.get? so = some (superO D x C) → Q (.ref so) h') :
    WpA w r A (.func body (envX q scope L f (.ref cda) [(s242, cc)])) (attributeBase (.Call (.Name "super" p0) [] [] p1) attr (envX q scope L f (.ref cda) [(s242, cc)]) whole) Q h := by
  have X : (K0 w.params).In h := (W.kp T.kp).X
  obtain ⟨mg, G⟩ := W.g
  obtain ⟨mb, b, hb⟩ := W.b
  refine ⟨fun E tk => ?_⟩
  refine ks_wpAt_super_base (env := envX q scope L f (.ref cda) [(s242, cc)]) hks hkc hat rfl (X _ _ hf) hfd hp rfl (X _ _ hcode) hoc hvs file_ok top_super ?_
  refine ks_loadName_global hk hks (loadGlobal_builtin (env := envX q scope L f (.ref cda) [(s242, cc)]) (G.keeps T.kp) (mg_none_of W.X G (g_super _)) (b.keeps T.kp) ((hb _ (by decide +kernel)).trans boot_super) ⟨rfl, ?_⟩)
  refine wpAny_loadName_free hk hkc rfl ⟨_, X _ _ hcell, hcd⟩ ?_
  refine wpAny_loadName_local hk hka T.ns hv ?_
  refine ks_wpAny_isType_cls (X _ _ hD) hDd ⟨rfl, ?_⟩
  refine ks_wpAny_call_super (X _ _ hD) hDd I.at_ I.cls (fun c e => ?_) (looks_mroIn X hsub) (fun h' e k' => ⟨h', _, rfl, k _ _ k' (fresh_none fun _ _ e => e) e⟩)
  have := I.no
  unfold notCls at this
  rw [e] at this
  exact Bool.noConfusion this
theorem callFA {f : Addr} {o : Obj} {name qual : Str} {params : Arguments} {body : List Stmt} {scope : Scope} {cl : List (Str × Addr)} {dV kV doc pm cdv ct : Value} {an : Option Addr} {vals : List Value} {kw : List (Str × Value)} {binds : List (Str × Value)} {k : Nat} {Q : Value → Heap → Prop}
    (D : Wd w h) (R : Room A (k + 1)) (ho : (K0 w.params).lookup f = some o) (hd : o.data = .func (fnX name qual params body scope cl dV kV doc pm an cdv ct)) (hcd : codeIn (K0 w.params) cdv qual = true)
    (hbind : ∀ tk, BindsTo (stt r h tk) (fnX name qual params body scope cl dV kV doc pm an cdv ct) ⟨vals, kw⟩ binds) (hloc : (binds.all fun x => decide (scope.names.lookup x.1 = some .local)) = true)
    (p : ∀ L h₁, h.get? L = none → At h L [] h₁ (fun x => binds.reverse.lookup x) → Room (A.deeper (envX qual scope L f cdv cl)) k →
      WpA w r (A.deeper (envX qual scope L f cdv cl)) (.func body (envX qual scope L f cdv cl)) (execs body (envX qual scope L f cdv cl)) (fun fl h' => Q (match fl with | .ret v => v | _ => .none) h') h₁)
    (hcell : ∀ x ∈ scope.names, x.2 ≠ .cell) (hco : scope.isCoroutine = false) (hgen : scope.isGenerator = false) (hkf : scope.kind = .function) :
    Wp w r A (call (.ref f) vals kw) Q h := by
  refine ⟨fun E tk => wpAny_call (ks_codeAny_call_defAt (s := stt r h tk) (fd := fnX name qual params body scope cl dV kV doc pm an cdv ct) (body := body) (binds := binds) (Nat.lt_of_le_of_lt (Nat.le_add_right _ _) R.depth) (D.X _ _ ho) hd D.lim (codeRec_of D.X hcd) rfl (hbind tk) hcell (locs hloc) (fun h₁ hn hk₁ => ?_) hco hgen hkf)⟩
  have L0 : h.get? h.objs.size = none := fresh_none fun _ _ e => e
  exact (p h.objs.size h₁ L0 ⟨hn, hk₁, L0, fun _ q => nomatch q⟩ (R.deeper _)).into fun fl h' tk' q => ⟨h', tk', rfl, q⟩
theorem w_bound0 {T id : String} {q x : Addr} {pos : Pos} {Q : Value → Heap → Prop} (e : h.get? q = some (boundO T id x)) (hT : (Value.type T != .type "method" && (Value.type T == .type "builtin_function_or_method" || Value.type T == .type "method-wrapper")) = true)
    (p : Wp w r A (call (.ref q) []) Q h) : Wp w r A (callWith pos (.ref q) [] (backTo pos (starEach [] env)) []) Q h := by
  refine ⟨fun E tk => callWith_of (P := fun h' => h'.get? q = some (boundO T id x)) rfl (fun h' e' => ⟨.machine, .inr (.inl rfl), (Looks.ld (part := none) e').andThen ?_⟩) (evalArgs_nil3 ⟨e, p.run E tk⟩)⟩
  obtain ⟨h1, h2⟩ := Bool.and_eq_true_iff.mp hT
  show Looks _ _ (if Value.type T != .type "method" then _ else _) _
  rw [if_pos h1, if_pos h2]
  exact .now
theorem c_bound {T id : String} {q x : Addr} {B : Builtin} {Q : Value → Heap → Prop} (e : h.get? q = some (boundO T id x)) (hT : (Value.type T != .type "method" && (Value.type T == .type "builtin_function_or_method" || Value.type T == .type "method-wrapper")) = true)
    (hchk : ∀ A' Q' E tk, Q' () (stt r h tk) → wpAny (Md w) A' (checkBoundCall id ⟨[.ref x], []⟩) Q' E (stt r h tk)) (hq : plainId id = true) (hb : entryFor table id = some B)
    (p : Wp w r A.in1 (B ⟨[.ref x], []⟩) (fun fin h' => ∃ v, fin = .done (.ret v) ∧ Q v h') h) : Wp w r A (call (.ref q) []) Q h := by
  obtain ⟨h1, h2⟩ := Bool.and_eq_true_iff.mp hT
  refine ⟨fun E tk => wpAny_call (codeAny_of_tree ?_)⟩
  show wpAny _ _ (callAny (.ref q) _) _ _ _
  unfold callAny
  refine wpAny_bind (wpAny_load (s := stt r h tk) e ?_)
  dsimp only
  have h3 : (Value.type T == .type "method" || Value.type T == .type "builtin_function_or_method" || Value.type T == .type "method-wrapper") = true := by
    rw [Bool.or_assoc, h2, Bool.or_true]
  rw [if_pos h3]
  show wpAny _ _ (if Value.type T != .type "method" then _ else _) _ _ _
  rw [if_pos h1]
  refine wpAny_bind (hchk _ _ _ _ ?_)
  refine wpAny_bind (wpAny_pure (wpAny_pure ⟨plainId_quiet hq _, codeAny_builtin hb ?_⟩))
  rw [Around.under_plainId hq]
  exact p.into fun fin h' tk' z => by obtain ⟨v, e, z⟩ := z; subst e; exact ⟨h', tk', rfl, z⟩
end
end Mine
end
noncomputable section
open PySem PySem.W PySem.Spec PySem.Calls PyProof.Rows
set_option maxRecDepth 100000
namespace Mine
theorem bt_mw : (Value.type "method-wrapper" != .type "method" && (Value.type "method-wrapper" == .type "builtin_function_or_method" || Value.type "method-wrapper" == .type "method-wrapper")) = true := by decide +kernel
theorem bt_bf : (Value.type "builtin_function_or_method" != .type "method" && (Value.type "builtin_function_or_method" == .type "builtin_function_or_method" || Value.type "builtin_function_or_method" == .type "method-wrapper")) = true := by decide +kernel
theorem acc_cls (P : Params) : ∃ cd, clsIn (K0 P) 118 = some cd ∧ cd.mro = [.ref 118, .type "list", .type "object"] := ⟨_, rfl, rfl⟩
theorem no_opaque (P : Params) : nsIn (K0 P) cStatics "thirdparty.any" = some none := by kernel_rfl
theorem kind_llen : builtinKind "list.__len__" = some .slot := by rw [builtinKind_eq_fast]; decide +kernel
theorem type_llen : typeOf (.builtin "list.__len__") = pure (.type "wrapper_descriptor") := by show builtinType _ = _; rw [builtinType_eq_fast]; kernel_rfl
theorem own_llen : ".".intercalate ("list.__len__".cutAt '.').dropLast = "list" := by decide +kernel
theorem along_llen (P : Params) : alongIn (K0 P) "__len__" [.type "list", .type "object"] = some (some (.builtin "list.__len__")) := by kernel_rfl
theorem acc_mro (P : Params) : mroIn (K0 P) 118 (.ref 118) = some true := by kernel_rfl
theorem look_42 (P : Params) : (K0 P).lookup 42 = some (o42 P) := by kernel_rfl
theorem look_118 (P : Params) : (K0 P).lookup 118 = some (o118 P) := by kernel_rfl
theorem drop_acc : (([Value.ref 118, .type "list", .type "object"]).dropWhile (· != .ref 118)).drop 1 = [.type "list", .type "object"] := by decide +kernel
section
variable {w : World} {r : Rst} {A : Around} {h : Heap} {Q : Value → Heap → Prop} {p d : Addr} {vs : List Value}
theorem part_count_ (D : Wd w h) (B : Pile w h p d vs) {k : Nat} (R : Room A (k + 3)) (q : ∀ h' t, Kp h h' → Q (.int vs.length t) h') : Wp w r A (call (.ref 115) [.ref p]) Q h := by
  refine callFA D R (o := o115 w.params) (by kernel_rfl) rfl (by kernel_rfl) (fun tk => BindsTo.of_eq rfl) (by rfl) (fun L h₁ hL T R => ?_) (by decide) rfl rfl rfl
  refine A_last (A_ret (A_me (fun pl => ?_)))
  have B1 := B.ext (Ext.of T.kp []) (by simp) (by simp)
  obtain ⟨n, t, t', I⟩ := B1.inst
  refine super_base D T (f := 115) (of := o115 w.params) (ar := _) (by kernel_rfl) rfl rfl rfl I (cda := 114) (oc := o114 w.params) (by kernel_rfl) rfl rfl (look_42 _) rfl (look_118 _) rfl (acc_mro _) (by decide +kernel) rfl rfl rfl rfl (fun so h₂ k₂ ns e₂ => ?_)
  have D2 := D.kp fun b o e => k₂ _ _ (T.kp _ _ e)
  have B2 := B1.ext (Ext.of k₂ []) (by simp) (by simp)
  obtain ⟨n, t, t', I⟩ := B2.inst
  obtain ⟨cd, c1, c2⟩ := acc_cls w.params
  refine m_super e₂ (looks_opaque D2.X (no_opaque _)) (l₀ := [.ref 118, .type "list", .type "object"]) (c2 ▸ (looks_clsIn D2.X c1).andThen .now) drop_acc D2.X (along_llen _) type_llen slot_wd.lookup (ks_ne D2.X I c1) (by decide +kernel) ?_
  refine wd_get type_llen own_llen I.at_ I.cls (looks_subIn D2.X (acc_list _)) (fun b h₃ k₃ nb e₃ => ⟨b, rfl, ?_⟩)
  refine w_bound0 e₃ bt_mw (c_bound e₃ bt_mw (fun A' Q' E tk z => ?_) slot_list_len.plain entry_list_len ?_)
  · have ha := args_list_len (.ref p)
    unfold argsOk at ha
    unfold checkBoundCall
    rw [kind_llen]
    split
    · rename_i sig hs
      rw [hs] at ha
      exact wpAny_of_eq ha z
    · exact wpAny_pure z
  · have B3 := B2.ext (Ext.of k₃ []) (by simp) (by simp)
    obtain ⟨n, t, t', I⟩ := B3.inst
    show Wp w r _ (seqSize p >>= fun n => retInt n) _ h₃
    refine ⟨fun E tk => ?_⟩
    have e := I.at_
    unfold seqSize
    repeat lk
    refine ⟨_, _, rfl, _, rfl, ?_⟩
    have := q h₃ (tk) (fun b o e => k₃ _ _ (k₂ _ _ (T.kp _ _ e)))
    simpa using this
theorem o_eqi {a b : Int} {t u : Tok} (q : Q (.bool (a == b)) h) : Wp w r A (compareOp .Eq (.int a t) (.int b u)) Q h := ⟨fun _ tk => PySem.P.eq_int ⟨h, tk, rfl, q⟩⟩
theorem acc_pc (P : Params) : findIn (K0 P) (.ref 118) "part_count" = some (some (.ref 115)) := by kernel_rfl
theorem along_lpop (P : Params) : alongIn (K0 P) "pop" [.type "list", .type "object"] = some (some (.builtin "list.pop")) := by kernel_rfl
theorem own_lpop : ".".intercalate ("list.pop".cutAt '.').dropLast = "list" := by decide +kernel
theorem told_lpop : Manifest.toldItsClass.contains "list.pop" = false := by decide +kernel
theorem kind_lpop : builtinKind "list.pop" = some .method := by rw [builtinKind_eq_fast]; decide +kernel
theorem plain_lpop : plainId "list.pop" = true := by decide +kernel
theorem acc_mod (P : Params) : subIn (K0 P) (.ref 118) (.type "module") = some false := by kernel_rfl
theorem last_lpop : Bind.lastOf "list.pop" = "pop" := by decide +kernel
theorem var_lpop : Manifest.varargsMethods.contains "list.pop" = false := by decide +kernel
theorem chk_lpop (B : Pile w h p d vs) (X : (K0 w.params).In h) : ∀ A' Q' E tk, Q' () (stt r h tk) → wpAny (Md w) A' (checkBoundCall "list.pop" ⟨[.ref p], []⟩) Q' E (stt r h tk) := by
  intro A' Q' E tk z
  obtain ⟨n, t, t', I⟩ := B.inst
  have L0 : Looks (Md w) h (isInstance (.ref p) (.type "module")) false := I.type.andThen (looks_subIn X (acc_mod _))
  have e := I.at_
  have e2 := X _ _ (look_118 w.params)
  unfold checkBoundCall
  rw [kind_lpop]
  rw [signature?_of (id := "list.pop") (n := ['p', 'o', 'p']) (o := ['t', 's', 'i', 'l']) (by kernel_rfl) F.owner_list]
  rw [var_lpop]
  repeat lk
  exact z
theorem erase_last (v : Value) : ∀ us : List Value, (us ++ [v]).eraseIdx us.length = us
  | [] => rfl
  | u :: us => by simp [erase_last v us]
theorem run_lpop {us : List Value} {v : Value} (B : Pile w h p d (us ++ [v])) (hz : us.length ≤ 999) (hd : d ≠ p) (q : ∀ h', Ext [p] h h' → Pile w h' p d us → Q v h') :
    Wp w r A (Builtin.«list.pop» ⟨[.ref p], []⟩) (fun fin h' => ∃ v, fin = .done (.ret v) ∧ Q v h') h := by
  obtain ⟨n, t, t', I⟩ := B.inst
  have e := I.at_
  refine ⟨fun E tk => ?_⟩
  unfold Builtin.«list.pop»
  repeat lk
  have h1 : (us ++ [v]).toArray.isEmpty = false := by simp
  have h2 : ((seqIndex? (-1) (us ++ [v]).toArray.size).bind fun k => Option.map (fun x => (k, x)) (us ++ [v]).toArray[k]?) = some (us.length, v) := by
    have : seqIndex? (-1) (us ++ [v]).toArray.size = some us.length := by
      unfold seqIndex?
      simp
      omega
    rw [this]
    simp
  rw [h1, h2]
  have fin : Wp w r A (updateSeq p (fun x => x.eraseIdxIfInBounds us.length) >>= fun _ => ret v) (fun fin h' => ∃ v, fin = .done (.ret v) ∧ Q v h') h := by
    refine .bind (u_seq e (fun h' n' x e' => .pure ⟨_, rfl, q h' x ⟨⟨n', ?_⟩, t, t', x _ _ (by simpa using hd) I.dict⟩⟩) ?_ ?_)
    · rw [e']
      simp [Array.eraseIdxIfInBounds, erase_last]
    · simp; omega
    · simp [Array.eraseIdxIfInBounds, erase_last]; omega
  exact fin.run E tk
theorem pop_ (D : Wd w h) (B : Pile w h p d vs) (hz : vs.length ≤ 1000) (hd : d ≠ p) {k : Nat} (R : Room A (k + 6))
    (q0 : vs = [] → ∀ h' T t t', Kp h h' → h.get? T = none → h'.get? T = some (tupO [.str "" t, .str "" t']) → Q (.ref T) h')
    (q1 : ∀ us v, vs = us ++ [v] → ∀ h', Ext [p] h h' → Pile w h' p d us → Q v h') : Wp w r A (call (.ref 78) [.ref p]) Q h := by
  refine callFA D R (o := o78 w.params) (by kernel_rfl) rfl (by kernel_rfl) (fun tk => BindsTo.of_eq rfl) (by rfl) (fun L h₁ hL T R => ?_) (by decide) rfl rfl rfl
  have B1 := B.ext (Ext.of T.kp []) (by simp) (by simp)
  have D1 := D.kp T.kp
  obtain ⟨n, t, t', I⟩ := B1.inst
  refine A_cons (s_if (t_cmp (c_me fun pl => nmL T rfl ?_)))
  refine m_fn D1.X I (acc_ga _) can_list (acc_gat _) (acc_pc _) (by kernel_rfl) rfl ?_
  refine w_fn0 D1 (fun P => by kernel_rfl) ?_
  refine part_count_ D1 B1 (R.le (Nat.le_add_right _ 2)) (fun h₂ t₁ k₂ => e_int fun t₂ => o_eqi (t_bool ?_))
  have k2 : Kp h h₂ := fun b o e => k₂ _ _ (T.kp _ _ e)
  rcases List.eq_nil_or_concat vs with rfl | ⟨us, v, e0⟩
  ·
    refine s_cons (s_ret (e_tup (a_cons (e_str fun t₃ => a_cons (e_str fun t₄ => a_nil (n_tup fun a h₃ k₃ na e₃ => ?_))))))
    exact q0 rfl h₃ a _ _ (fun b o e => k₃ _ _ (k2 _ _ e)) (none_of_ext (Ext.of k2 []) (by simp) na) e₃
  · rw [List.concat_eq_append] at e0
    subst e0
    rw [show (((us ++ [v]).length : Int) == 0) = false from beq_eq_false_iff_ne.mpr (by rw [List.length_append, List.length_singleton]; omega)]
    refine s_nil (A_last (A_ret (A_me fun pl => ?_)))
    have T2 := T.ext k₂
    have D2 := D.kp k2
    have B2 := B.ext (Ext.of k2 []) (by simp) (by simp)
    obtain ⟨n, t, t', I⟩ := B2.inst
    refine super_base D T2 (f := 78) (of := o78 w.params) (ar := _) (by kernel_rfl) rfl rfl rfl I (cda := 77) (oc := o77 w.params) (by kernel_rfl) rfl rfl (look_42 _) rfl (look_118 _) rfl (acc_mro _) (by decide +kernel) rfl rfl rfl rfl (fun so h₃ k₃ ns e₃ => ?_)
    have D3 := D2.kp k₃
    have B3 := B2.ext (Ext.of k₃ []) (by simp) (by simp)
    obtain ⟨n, t, t', I⟩ := B3.inst
    obtain ⟨cd, c1, c2⟩ := acc_cls w.params
    refine m_super e₃ (looks_opaque D3.X (no_opaque _)) (l₀ := [.ref 118, .type "list", .type "object"]) (c2 ▸ (looks_clsIn D3.X c1).andThen .now) drop_acc D3.X (along_lpop _) F.type_list_pop slot_mdg.lookup (ks_ne D3.X I c1) (by decide +kernel) ?_
    refine mdg_get F.type_list_pop told_lpop own_lpop I.at_ I.cls (looks_subIn D3.X (acc_list _)) (fun b h₄ k₄ nb e₄ => ⟨b, rfl, ?_⟩)
    have B4 := B3.ext (Ext.of k₄ []) (by simp) (by simp)
    refine w_bound0 e₄ bt_bf (c_bound e₄ bt_bf (chk_lpop B4 (D3.kp k₄).X) plain_lpop F.entry_list_pop ?_)
    exact run_lpop B4 (by simpa using hz) hd (fun h₅ x₅ B₅ => q1 us v rfl h₅ (fun b o n e => x₅ _ _ n (k₄ _ _ (k₃ _ _ (k2 _ _ e)))) B₅)
end
end Mine
end
noncomputable section
open PySem PySem.W PySem.Spec PySem.Calls PyProof.Rows
set_option maxRecDepth 100000
namespace Mine
structure Cd (w : World) (r : Rst) (A : Around) (c : Code) (Q : Value → Heap → Prop) (h : Heap) : Prop where
  run : ∀ tk, codeAny (Md w) A c (fun res s' => match res with | .ok (.ret v) => ∃ h' tk', s' = stt r h' tk' ∧ Q v h' | _ => False) (stt r h tk)
section
variable {w : World} {r : Rst} {A : Around} {h : Heap} {Q : Value → Heap → Prop}
theorem Cd.into {c : Code} {R : Result → Shared → Prop} {tk : Nat} (p : Cd w r A c Q h) (k : ∀ v h' tk', Q v h' → R (.ok (.ret v)) (stt r h' tk')) : codeAny (Md w) A c R (stt r h tk) :=
  codeAny_mono (p.run tk) (fun res s' z => by
    rcases res with e | (v | _ | _ | _) <;> first | exact z.elim | skip
    obtain ⟨h', tk', e, q⟩ := z
    subst e
    exact k _ h' tk' q)
theorem Cd.call {f : Value} {pos : List Value} {kw : List (Str × Value)} (p : Cd w r A (.call f ⟨pos, kw⟩) Q h) : Wp w r A (PySem.call f pos kw) Q h :=
  ⟨fun E tk => wpAny_call (p.into fun v h' tk' q => ⟨h', tk', rfl, q⟩)⟩
theorem codeF {f : Addr} {o : Obj} {name qual : Str} {params : Arguments} {body : List Stmt} {scope : Scope} {cl : List (Str × Addr)} {dV kV doc pm cdv ct : Value} {an : Option Addr} {vals : List Value} {kw : List (Str × Value)} {binds : List (Str × Value)} {k : Nat}
    (D : Wd w h) (R : Room A (k + 1)) (ho : (K0 w.params).lookup f = some o) (hd : o.data = .func (fnX name qual params body scope cl dV kV doc pm an cdv ct)) (hcd : codeIn (K0 w.params) cdv qual = true)
    (hbind : ∀ tk, BindsTo (stt r h tk) (fnX name qual params body scope cl dV kV doc pm an cdv ct) ⟨vals, kw⟩ binds) (hloc : (binds.all fun x => decide (scope.names.lookup x.1 = some .local)) = true)
    (p : ∀ L h₁, h.get? L = none → At h L [] h₁ (fun x => binds.reverse.lookup x) → Room (A.deeper (envX qual scope L f cdv cl)) k →
      WpA w r (A.deeper (envX qual scope L f cdv cl)) (.func body (envX qual scope L f cdv cl)) (execs body (envX qual scope L f cdv cl)) (fun fl h' => Q (match fl with | .ret v => v | _ => .none) h') h₁)
    (hcell : ∀ x ∈ scope.names, x.2 ≠ .cell) (hco : scope.isCoroutine = false) (hgen : scope.isGenerator = false) (hkf : scope.kind = .function) :
    Cd w r A (.call (.ref f) ⟨vals, kw⟩) Q h := by
  refine ⟨fun tk => ks_codeAny_call_defAt (s := stt r h tk) (fd := fnX name qual params body scope cl dV kV doc pm an cdv ct) (body := body) (binds := binds) (Nat.lt_of_le_of_lt (Nat.le_add_right _ _) R.depth) (D.X _ _ ho) hd D.lim (codeRec_of D.X hcd) rfl (hbind tk) hcell (locs hloc) (fun h₁ hn hk₁ => ?_) hco hgen hkf⟩
  have L0 : h.get? h.objs.size = none := fresh_none fun _ _ e => e
  exact (p h.objs.size h₁ L0 ⟨hn, hk₁, L0, fun _ q => nomatch q⟩ (R.deeper _)).into fun fl h' tk' q => ⟨h', tk', rfl, q⟩
theorem acc_call (P : Params) : specialIn (K0 P) (.ref 118) "__call__" = some (some (.builtin "type.__call__")) := by kernel_rfl
theorem acc_type (P : Params) : instIn (K0 P) (.ref 118) (.type "type") = some true := by kernel_rfl
theorem acc_init (P : Params) : findIn (K0 P) (.ref 118) "__init__" = some (some (.ref 55)) := by kernel_rfl
theorem made_acc {M : Model} (X : (K0 w.params).In h) : Looks M h (Bind.madeBy (.ref 118)) (some "list.__new__") := by
  obtain ⟨cd, c1, c2⟩ := acc_cls w.params
  have hm : Looks M h (mroOf (.ref 118)) [.ref 118, .type "list", .type "object"] := c2 ▸ (looks_clsIn X c1).andThen .now
  intro A Q E s k q
  unfold Bind.madeBy
  refine wpAny_bind (hm A _ E s k ?_)
  rw [List.forIn_cons]
  refine wpAny_bind (wpAny_bind (wpAny_bind (wpAny_bind (wpAny_loadPart (k _ _ (X _ _ (look_118 _))) (wpAny_pure ?_)))))
  exact wpAny_pure (wpAny_pure (wpAny_pure q))
abbrev accO (d : Addr) (vs : List Value) (n : Nat := 0) : Obj := ⟨.ref 118, some d, .seq vs.toArray n, #[]⟩
theorem checkNew_acc (X : (K0 w.params).In h) : ∀ A' Q' E tk, Q' () (stt r h tk) → wpAny (Md w) A' (checkBuiltinCall "list.__new__" ⟨[.ref 118], []⟩) Q' E (stt r h tk) := by
  intro A' Q' E tk z
  have e := X _ _ (look_118 w.params)
  have L1 : Looks (Md w) h (isSubtype (.ref 118) (.type "list")) true := looks_subIn X (acc_list _)
  have L2 := made_acc (M := Md w) X
  unfold checkBuiltinCall
  rw [builtinKind_eq_fast]
  repeat lk
  exact z
theorem code_list_new_acc (X : (K0 w.params).In h) (q : ∀ x d h', Kp h h' → h.get? x = none → h.get? d = none → d ≠ x → h'.get? x = some (accO d []) → h'.get? d = some emptyDict → Q (.ref x) h') :
    Cd w r A (.call (.builtin "list.__new__") ⟨[.ref 118], []⟩) Q h := by
  refine ⟨fun tk => codeAny_call_builtin_code (plainId_quiet F.plain_list_new _) (checkNew_acc X _ _ _ _ ?_)⟩
  refine codeAny_builtin_stack F.entry_list_new rfl fun p st => ?_
  rw [Around.under_plainId F.plain_list_new _]
  have hown := owner_list_new
  have e := X _ _ (look_118 w.params)
  have L1 : Looks (Md w) h (isSubtype (.ref 118) (.type "list")) true := looks_subIn X (acc_list _)
  simp only [hown]
  have e1 : (h.push emptyDict).get? 118 = some (o118 w.params) := kpush _ _ _ _ e
  have e2 : ((h.push emptyDict).push (accO h.objs.size [])).get? 118 = some (o118 w.params) := kpush _ _ _ _ e1
  repeat lk
  have n0 : h.get? h.objs.size = none := fresh_none fun _ _ e => e
  have n1 : (h.push emptyDict).get? (h.push emptyDict).objs.size = none := fresh_none fun _ _ e => e
  refine ⟨_, _, rfl, q _ h.objs.size _ (fun b o e => kpush _ _ _ _ (kpush _ _ _ _ e)) (none_of_ext (Ext.of (kpush h emptyDict) []) (by simp) n1) n0 ?_ (Heap.get?_push_size _ rfl) (kpush _ _ _ _ (Heap.get?_push_size _ rfl))⟩
  rw [Heap.size_push]; exact Nat.ne_of_lt (Nat.lt_succ_self _)
theorem make_acc (D : Wd w h) (p : ∀ x d h', Kp h h' → h.get? x = none → h.get? d = none → d ≠ x → h'.get? x = some (accO d []) → h'.get? d = some emptyDict →
      Cd w r (A.under (.builtin "type.__call__" ⟨[.ref 118], []⟩)) (.call (.ref 55) ⟨[.ref x], []⟩) (fun v h'' => v = .none ∧ Q (.ref x) h'') h') : Cd w r A (.call (.ref 118) ⟨[], []⟩) Q h := by
  have X := D.X
  have e := X _ _ (look_118 w.params)
  have call : Looks (Md w) h (specialOf (.ref 118) "__call__") (some (.builtin "type.__call__")) := looks_specialIn X (acc_call _)
  have typ : Looks (Md w) h (isInstance (.ref 118) (.type "type")) true := looks_instIn X (acc_type _)
  have made := made_acc (M := Md w) X
  obtain ⟨cd, c1, c2⟩ := acc_cls w.params
  have hm : Looks (Md w) h (mroOf (.ref 118)) [.ref 118, .type "list", .type "object"] := c2 ▸ (looks_clsIn X c1).andThen .now
  refine ⟨fun tk => codeAny_of_tree ?_⟩
  show wpAny _ _ (callAny (.ref 118) _) _ _ _
  refine nd_load e ?_
  show wpAny _ _ (callAny.viaDunder (.ref 118) _) _ _ _
  unfold callAny.viaDunder
  refine wpAny_bind (call.at ?_)
  dsimp only
  rw [tc_bind]
  refine wpAny_bind (wpAny_pure (wpAny_bind (wpAny_pure ?_)))
  refine wpAny_pure (a := Fin.again (.call (.builtin "type.__call__") ⟨[.ref 118], []⟩)) (And.intro rfl ?_)
  refine codeAny_call_builtin_at (Code.quiet_builtin _ (by decide +kernel)) entry_typeCall (check_slot (s := stt r h tk) tc_kind tc_split typ (tc_args _ _ _) ?_)
  unfold Builtin.«type.__call__»
  repeat (first | with_reducible refine wpAny_call ?_ | lk)
  refine (code_list_new_acc (Q := fun v h' => ∃ x d, v = .ref x ∧ Kp h h' ∧ h.get? x = none ∧ h.get? d = none ∧ d ≠ x ∧ h'.get? x = some (accO d []) ∧ h'.get? d = some emptyDict) X (fun x d h' k n1 n2 n3 e1 e2 => ⟨x, d, rfl, k, n1, n2, n3, e1, e2⟩)).into fun v h' tk' z => ?_
  obtain ⟨x, d, rfl, k, n1, n2, n3, e1, e2⟩ := z
  have X' := (D.kp k).X
  have I : InstAt h' x (accO d []) 118 (some emptyDict) := ⟨e1, rfl, rfl, e2⟩
  have t1 : Looks (Md w) h' (typeOf (.ref x)) (.ref 118) := I.type
  have s1 : Looks (Md w) h' (isSubtype (.ref 118) (.ref 118)) true := looks_mroIn X' (acc_mro _)
  have i1 : Looks (Md w) h' (typeLookup (.ref 118) "__init__") (some (.ref 55)) := looks_findIn X' (acc_init _)
  have b1 : Looks (Md w) h' (bindSpecial (.ref 55) (.ref x)) (.ref 55, [.ref x]) := bind_fn X' _ (by kernel_rfl)
  unfold isInstance callSpecial? specialOf
  repeat (first | with_reducible refine wpAny_call ?_ | lk)
  exact (p x d h' k n1 n2 n3 e1 e2).into (tk := tk') fun v h'' tk'' z => by
    obtain ⟨e, z⟩ := z
    subst e
    exact wpAny_pure (wpAny_pure ⟨h'', tk'', rfl, z⟩)
end
end Mine
end
noncomputable section
open PySem PySem.W PySem.Spec PySem.Calls PyProof.Rows
set_option maxRecDepth 100000
namespace Mine
section
variable {w : World} {r : Rst} {A : Around} {h : Heap} {Q : Value → Heap → Prop}
theorem refuse_acc (self : Value) : refuseLoop self "__setattr__" [.ref 118, .type "list", .type "object"] = pure () := by kernel_rfl
theorem acc_set (P : Params) : findIn (K0 P) (.ref 118) "__setattr__" = some (some (.builtin "object.__setattr__")) := by kernel_rfl
theorem acc_no (P : Params) : findIn (K0 P) (.ref 118) initS = some none := by kernel_rfl
theorem acc_cls' (P : Params) : ∃ cd, clsIn (K0 P) 118 = some cd ∧ cd.mro = [.ref 118, .type "list", .type "object"] ∧ cd.hasDict = true := ⟨_, rfl, rfl, rfl⟩
theorem nd_upd {α : Type} {M : Model} {E : Value → Shared → Prop} {s : Shared} {Q : α → Shared → Prop} {a : Addr} {p : Option Value} {f : Obj → Obj} {k : Unit → Sem α} {o : Obj} (ho : s.heap.get? a = some o) (q : wpAny M A (k ()) Q E { s with heap := s.heap.update a f }) :
    wpAny M A (.update a p f k) Q E s := wpAny_bind (m := updatePart a p f) (f := k) (wpAny_updatePart ho q)
theorem set_acc {x d : Addr} {vs : List Value} {n : Nat} {v : Value} {Q : Unit → Heap → Prop} (D : Wd w h) (e1 : h.get? x = some (accO d vs n)) (e2 : h.get? d = some emptyDict)
    (q : ∀ h' t, Ext [d] h h' → h'.get? d = some (dictOf [⟨kh w.params initS, .str initS t, v⟩] 1) → Q () h') : Wp w r A (setAttr (.ref x) initS v) Q h := by
  have X := D.X
  have I : InstAt h x (accO d vs n) 118 (some emptyDict) := ⟨e1, rfl, rfl, e2⟩
  obtain ⟨cd, c1, c2, c4⟩ := acc_cls' w.params
  have hm : Looks (Md w) h (mroOf (.ref 118)) [.ref 118, .type "list", .type "object"] := c2 ▸ (looks_clsIn X c1).andThen .now
  have t1 : Looks (Md w) h (typeOf (.ref x)) (.ref 118) := I.type
  have f1 : Looks (Md w) h (typeLookup (.ref 118) initS) none := looks_findIn X (acc_no _)
  have c3 := looks_clsIn (M := Md w) X c1
  have SF := PySem.F.store_object
  have sub : Looks (Md w) h (isInstance (.ref x) (.type "object")) true := I.type.andThen (looks_mroIn X (by kernel_rfl))
  refine ⟨fun E tk => set_plain (s := stt r h tk) X I (acc_set _) ?_⟩
  refine codeAny_call_builtin SF.slot.plain SF.entry (@check_slot (Md w) _ _ (stt r h (tk + 1)) "object.__setattr__" "object" "__setattr__" (.ref x) [.str initS tk, v] [] _ SF.kind SF.split sub (SF.args (.ref x) (.str initS tk) v) ?_)
  rw [osa_eq, refuse_eq]
  refine wpAny_bind (wpAny_bind (t1.here (wpAny_bind (hm.here ?_))))
  rw [refuse_acc]
  refine wpAny_pure (wpAny_bind (t1.here (wpAny_bind (f1.here ?_))))
  repeat lk
  rw [c4]
  repeat lk
  refine nd_upd e2 ?_
  have e3 : (h.update d (Obj.putName initS (kh w.params initS) (.str initS (tk + 1)) v)).get? d = some (dictOf [⟨kh w.params initS, .str initS (tk + 1), v⟩] 1) := Heap.get?_update_self _ e2 rfl
  refine wpAny_pure ?_
  refine wpAny_bind (wpAny_lookBehind e3 (pastItsLine_dict (by rw [sizeLine_eq]; exact (by decide : 1 ≤ 16777216 + 1))) ?_)
  exact wpAny_pure ⟨_, _, rfl, q _ _ (Mine.Ext.upd _ _ _) e3⟩
theorem s_asgA {env : Env} {o : Expr} {attr : Str} {pos' pos : Pos} {value : Expr} {Q : Flow → Heap → Prop} (p : Wp w r A (eval value env) (fun v h₁ => Wp w r A (eval o env) (fun ov h₂ => Wp w r A (setAttr ov attr v) (fun _ => Q .next) h₂) h₁) h)
    (hs : swapsWith value (some (.Attribute o attr pos')) pos.line env = pure false := by rfl) : Wp w r A (exec (.Assign [.Attribute o attr pos'] value pos) env) Q h :=
  ⟨fun _ _ => plainObj_wpAny_Assign_Attribute (p.into fun _ _ _ q => q.into fun _ _ _ q => q.into fun _ h' tk' q => ⟨h', tk', rfl, q⟩) hs⟩
theorem look_47 (P : Params) : (K0 P).lookup 47 = some (o47 P) := by kernel_rfl
theorem along_linit (P : Params) : alongIn (K0 P) "__init__" [.type "list", .type "object"] = some (some (.builtin "list.__init__")) := by kernel_rfl
theorem type_linit : typeOf (.builtin "list.__init__") = pure (.type "wrapper_descriptor") := by show builtinType _ = _; rw [builtinType_eq_fast]; kernel_rfl
theorem own_linit : ".".intercalate ("list.__init__".cutAt '.').dropLast = "list" := by decide +kernel
theorem kind_linit : builtinKind "list.__init__" = some .slot := by rw [builtinKind_eq_fast]; decide +kernel
theorem kpx {b h h' : Heap} {W : List Addr} (k : Kp b h) (x : Ext W h h') (n : ∀ a ∈ W, b.get? a = none) : Kp b h' := fun a o e => x a o (fun q => by rw [n a q] at e; cases e) (k a o e)
theorem ne_of {h : Heap} {a b : Addr} {o o' : Obj} (e : h.get? a = some o) (e' : h.get? b = some o') (n : o ≠ o') : a ≠ b := by
  rintro rfl; rw [e] at e'; exact n (Option.some.inj e')
theorem run_linit {x d : Addr} {n : Nat} {Q : Value → Heap → Prop} (e1 : h.get? x = some (accO d [] n)) (q : ∀ h' n', Ext [x] h h' → h'.get? x = some (accO d [] n') → Q .none h') :
    Wp w r A (Builtin.«list.__init__» ⟨[.ref x], []⟩) (fun fin h' => ∃ v, fin = .done (.ret v) ∧ Q v h') h := by
  refine ⟨fun E tk => ?_⟩
  unfold Builtin.«list.__init__»
  repeat lk
  refine nd_upd e1 ?_
  have e3 : (h.update x (Obj.mapSeq fun _ => #[])).get? x = some (accO d [] n) := Heap.get?_update_self _ e1 rfl
  refine wpAny_pure (wpAny_lookBehind e3 (pastItsLine_seq ?_) ?_)
  · rw [sizeLine_eq]; exact (by decide : 0 ≤ 16777216 + 1)
  repeat lk
  exact ⟨_, _, rfl, _, rfl, q _ _ (Mine.Ext.upd _ _ _) e3⟩
theorem init_acc {b : Heap} (Db : Wd w b) (kb : Kp b h) {x d : Addr} (e1 : h.get? x = some (accO d [])) (e2 : h.get? d = some emptyDict) (hd : d ≠ x) (n2 : b.get? d = none) {k : Nat} (R : Room A (k + 3))
    (q : ∀ h', Ext [x, d] h h' → Pile w h' x d [] → Q .none h') : Cd w r A (.call (.ref 55) ⟨[.ref x], []⟩) Q h := by
  have D := Db.kp kb
  refine codeF D R (o := o55 w.params) (by kernel_rfl) rfl (by kernel_rfl) (fun tk => BindsTo.of_defaults (s := stt r h tk) (T := 47) rfl (D.X _ _ (look_47 _)) rfl rfl rfl) (by rfl) (fun L h₁ hL T R => ?_) (by decide) rfl rfl rfl
  refine A_cons (s_asgA (nmL T rfl (nmL T rfl ?_)))
  refine set_acc (D.kp T.kp) (T.kp _ _ e1) (T.kp _ _ e2) (fun h₂ t x₂ e₂ => ?_)
  obtain ⟨g, T2, xg, _⟩ := T.anew x₂ (fun a ha => ⟨_, (List.mem_singleton.mp ha) ▸ e2⟩)
  have kg : Kp b g := kpx kb xg (by simpa using n2)
  have D2 := Db.kp kg
  have e1' : h₂.get? x = some (accO d []) := x₂ _ _ (by simpa using hd.symm) (T.kp _ _ e1)
  have I : InstAt h₂ x (accO d []) 118 (some (accD w t _)) := ⟨e1', rfl, rfl, e₂⟩
  refine A_last (A_expr (A_me fun pl => ?_))
  refine super_base D2 T2 (f := 55) (of := o55 w.params) (ar := _) (by kernel_rfl) rfl rfl rfl I (cda := 54) (oc := o54 w.params) (by kernel_rfl) rfl rfl (look_42 _) rfl (look_118 _) rfl (acc_mro _) (by decide +kernel) rfl rfl rfl rfl (fun so h₃ k₃ ns e₃ => ?_)
  have D3 := (D2.kp T2.kp).kp k₃
  have I3 : InstAt h₃ x (accO d []) 118 (some (accD w t _)) := ⟨k₃ _ _ e1', rfl, rfl, k₃ _ _ e₂⟩
  obtain ⟨cd, c1, c2⟩ := acc_cls w.params
  refine m_super e₃ (looks_opaque D3.X (no_opaque _)) (l₀ := [.ref 118, .type "list", .type "object"]) (c2 ▸ (looks_clsIn D3.X c1).andThen .now) drop_acc D3.X (along_linit _) type_linit slot_wd.lookup (ks_ne D3.X I3 c1) (by decide +kernel) ?_
  refine wd_get type_linit own_linit I3.at_ I3.cls (looks_subIn D3.X (acc_list _)) (fun b h₄ k₄ nb e₄ => ⟨b, rfl, ?_⟩)
  refine w_bound0 e₄ bt_mw (c_bound e₄ bt_mw (fun A' Q' E tk z => ?_) F.slot_list_init.plain F.entry_list_init ?_)
  · have ha := F.args_list_init_1 (.ref x)
    unfold argsOk at ha
    unfold checkBoundCall
    rw [kind_linit]
    split
    · rename_i sig hs
      rw [hs] at ha
      exact wpAny_of_eq ha z
    · exact wpAny_pure z
  · refine run_linit (k₄ _ _ (k₃ _ _ e1')) (fun h₅ n' x₅ e₅ => q h₅ (fun a o n e => ?_) ⟨⟨n', e₅⟩, t, _, x₅ _ _ (by simpa using hd) (k₄ _ _ (k₃ _ _ e₂))⟩)
    simp only [List.mem_cons, List.not_mem_nil, or_false, not_or] at n
    exact x₅ _ _ (by simpa using n.1) (k₄ _ _ (k₃ _ _ (x₂ _ _ (by simpa using n.2) (T.kp _ _ e))))
theorem Room.make {k : Nat} (R : Room A (k + 1)) (C : Addr) (vals : List Value) : Room (A.under (.builtin "type.__call__" ⟨.ref C :: vals, []⟩)) k :=
  ⟨by have := R.depth; rw [depth_under_make]; omega, by have := R.units; rw [units_under_make]; omega, R.handled⟩
theorem new_acc {b : Heap} (Db : Wd w b) (kb : Kp b h) {k : Nat} (R : Room A (k + 4)) (q : ∀ x d h', Kp h h' → h.get? x = none → h.get? d = none → d ≠ x → Pile w h' x d [] → Q (.ref x) h') : Wp w r A (call (.ref 118) []) Q h := by
  refine (make_acc (Db.kp kb) fun x d h₁ k₁ nx nd hd e1 e2 => ?_).call
  exact init_acc Db (fun _ _ e => k₁ _ _ (kb _ _ e)) e1 e2 hd (none_of_ext (Ext.of kb []) (by simp) nd) (k := k) (R.make 118 []) (fun h' x' B => ⟨rfl, q x d h' (fun a o e => x' a o (by
    intro z
    simp only [List.mem_cons, List.not_mem_nil, or_false] at z
    rcases z with z | z <;> subst z
    · rw [nx] at e; cases e
    · rw [nd] at e; cases e) (k₁ _ _ e)) nx nd hd B⟩)
end
end Mine
end
noncomputable section
open PySem PySem.W PySem.Spec PySem.Calls PyProof.Rows
set_option maxRecDepth 100000
namespace Mine
section
variable {w : World} {r : Rst} {A : Around} {h : Heap} {env : Env} {Q : Value → Heap → Prop}
theorem o_is {a b : Value} (hp : plainIs a b = true) (q : Q (.bool (a == b)) h) : Wp w r A (compareOp .Is a b) Q h := ⟨fun _ tk => wpAny_is_plain hp ⟨h, tk, rfl, q⟩⟩
theorem o_isNot {a b : Value} (hp : plainIs a b = true) (q : Q (.bool (!(a == b))) h) : Wp w r A (compareOp .IsNot a b) Q h := ⟨fun _ tk => wpAny_isNot_plain hp ⟨h, tk, rfl, q⟩⟩
theorem t_val {e : Expr} {whole : Sem Value} {Q : Bool → Heap → Prop} (p : Wp w r A whole (fun v h₁ => Wp w r A (truthy v) Q h₁) h) (he : isTrue e env whole = (do let v ← whole; standAt e.pos; PySem.holding [v] (truthy v)) := by rfl) : Wp w r A (isTrue e env whole) Q h :=
  ⟨fun E _ => isTrue_plain (p.into fun _ _ tk p => p.run E tk) he⟩
theorem t_none {Q : Bool → Heap → Prop} (q : Q false h) : Wp w r A (truthy .none) Q h := ⟨fun _ tk => truthy_none ⟨h, tk, rfl, q⟩⟩
theorem t_str {x : Str} {t : Tok} {Q : Bool → Heap → Prop} (hz : x.length ≤ 1000) (q : Q ((x.length : Int) != 0) h) : Wp w r A (truthy (.str x t)) Q h := ⟨fun _ tk => PySem.P.truthy_str (s := stt r h tk) (by omega) ⟨h, _, rfl, q⟩⟩
theorem t_int {a : Int} {t : Tok} {Q : Bool → Heap → Prop} (q : Q (a != 0) h) : Wp w r A (truthy (.int a t)) Q h := ⟨fun _ tk => PySem.P.truthy_int ⟨h, tk, rfl, q⟩⟩
theorem w_ty {pos : Pos} {T : String} {e : Expr} {rest : List Expr} (p : Wp w r A (spliced (backTo pos (starEach (e :: rest) env))) (fun vs h₁ => Wp w r A (call (.type T) vs) Q h₁) h)
    (he : starEach (e :: rest) env = (false, eval e env) :: starEach rest env := by rfl) (hplain : (backTo pos (starEach rest env)).any (·.1) = false := by rfl) : Wp w r A (callWith pos (.type T) [] (backTo pos (starEach (e :: rest) env)) []) Q h :=
  ⟨fun E _ => PyProof.Rows.callWith_type1 (p.into fun _ _ tk p => p.run E tk) he hplain⟩
theorem c_type {x : Value} {T : String} (hx : ∀ tk, (stt r h tk).TypeIs x T) (hn : (Value.type T == Value.type "builtin_function_or_method") = false) (q : Q (.type T) h) : Wp w r A (call (.type "type") [x]) Q h := ⟨fun _ tk => call_type_of (s := stt r h tk) (hx tk) hn ⟨h, tk, rfl, q⟩⟩
theorem c_meK {o : Expr} {name : Str} {apos pos : Pos} {args : List Expr} {kws : List Keyword} (p : ∀ pl : Sem Bool, Wp w r A (eval o env) (fun ov h₁ => Wp w r A (getMethod ov name pl) (fun fx h₂ => Wp w r A (callWith pos fx.1 fx.2 (backTo pos (starEach args env)) (backToKw pos (keywordEach kws env))) Q h₂) h₁) h)
    {pl : Sem Bool} (he : eval (.Call (.Attribute o name apos) args kws pos) env = (do
      let ov ← eval o env
      PySem.standAt apos.atName
      let (f, first) ← PySem.holding [ov] (getMethod ov name pl)
      callWith pos f first (backTo pos (starEach args env)) (backToKw pos (keywordEach kws env))) := by rfl) : Wp w r A (eval (.Call (.Attribute o name apos) args kws pos) env) Q h :=
  ⟨fun E _ => methodCall_KW (pl := pl) ((p pl).into fun _ _ _ p => p.into fun _ _ tk p => p.run E tk) he⟩
theorem w_kw {g : Heap} {f : Addr} {pos : Pos} {first : List Value} {e : Expr} {rest : List Expr} {kws : List Keyword} (D : Wd w g) (hk : ∀ P, keepIn (K0 P) (.ref f) = true)
    (p : Wp w r A (spliced (backTo pos (starEach (e :: rest) env))) (fun vs h₁ => Wp w r A (evalAll ((backToKw pos (keywordEach kws env)).map (·.2))) (fun ks h₂ => Kp g h₂ ∧ Wp w r A (call (.ref f) (first ++ vs) (((backToKw pos (keywordEach kws env)).filterMap (·.1)).zip ks)) Q h₂) h₁) h)
    (hall : (backToKw pos (keywordEach kws env)).all (·.1.isSome) = true := by rfl)
    (hplain : ((backTo pos (starEach (e :: rest) env)).any (·.1) || (backToKw pos (keywordEach kws env)).any (·.1.isNone)) = false := by rfl) (he : starEach (e :: rest) env = (false, eval e env) :: starEach rest env := by rfl) : Wp w r A (callWith pos (.ref f) first (backTo pos (starEach (e :: rest) env)) (backToKw pos (keywordEach kws env))) Q h :=
  ⟨fun E _ => callWith_KW (K := K0 w.params) (h₀ := g) D.X (hk _) hall (p.into fun _ _ _ p => p.into fun _ _ tk p => ⟨fun a o e => p.1 _ _ (D.X a o e), p.2.run E tk⟩) hplain he⟩
theorem k_nil {Q : List Value → Heap → Prop} (q : Q [] h) : Wp w r A (evalAll []) Q h := ⟨fun _ tk => wpAny_evalAll_nil ⟨h, tk, rfl, q⟩⟩
theorem k_cons {x : Sem Value} {rest : List (Sem Value)} {pos : Pos} {Q : List Value → Heap → Prop} (p : Wp w r A x (fun v h₁ => Wp w r A (evalAll rest) (fun vs h₂ => Q (v :: vs) h₂) h₁) h) : Wp w r A (evalAll ((do let v ← x; PySem.standAt pos; Pure.pure v) :: rest)) Q h :=
  ⟨fun _ _ => wpAny_evalAll_cons (wpAny_bind (p.into fun _ _ _ p => wpAny_bind (wpAny_standAt (wpAny_pure (p.into fun _ h' tk' q => ⟨h', tk', rfl, q⟩)))))⟩
theorem peekK {α : Type} {t : Sem α} {a : α} {Q : α → Heap → Prop} (D : Wd w h) (e : ∀ P S, peek (K0 P) S t = some a) (q : Q a h) : Wp w r A t Q h := .look (Looks.of_peek D.X (e _ _)) q
theorem c_bi {id : String} {B : Builtin} {args : List Value} (hq : plainId id = true) (hb : entryFor table id = some B) (hc : Wp w r A.in1 (checkBuiltinCall id ⟨args, []⟩) (fun _ h₁ => Wp w r A.in1 (B ⟨args, []⟩) (fun fin h' => ∃ v, fin = .done (.ret v) ∧ Q v h') h₁) h) : Wp w r A (call (.builtin id) args) Q h :=
  ⟨fun _ _ => wpAny_call (codeAny_call_builtin hq hb (hc.into fun _ _ _ p => p.into fun fin h' tk' q => by obtain ⟨v, e, q⟩ := q; subst e; exact ⟨h', tk', rfl, q⟩))⟩
theorem g_nre (P : Params) : nsIn (K0 P) mainGlobals "_name_disallowed_re" = some (some (.ref 196)) := by kernel_rfl
theorem g_vre (P : Params) : nsIn (K0 P) mainGlobals "_value_disallowed_re" = some (some (.ref 201)) := by kernel_rfl
theorem g_type (P : Params) : nsIn (K0 P) mainGlobals "type" = some none := by kernel_rfl
theorem g_str (P : Params) : nsIn (K0 P) mainGlobals "str" = some none := by kernel_rfl
theorem boot_type : bootBuiltins "type" = some (.type "type") := by kernel_rfl
theorem boot_str : bootBuiltins "str" = some (.type "str") := by kernel_rfl
theorem entry_search : entryFor table "re.Pattern.search" = some Builtin.«re.Pattern.search» := entryFor_of_tree (by kernel_rfl)
theorem plain_search : plainId "re.Pattern.search" = true := by decide +kernel
theorem search_m1 (P : Params) (S : Setting) (pl) : peek (K0 P) S (getMethod (.ref 196) "search" pl) = some (.builtin "re.Pattern.search", [.ref 196]) := by kernel_rfl
theorem search_m2 (P : Params) (S : Setting) (pl) : peek (K0 P) S (getMethod (.ref 201) "search" pl) = some (.builtin "re.Pattern.search", [.ref 201]) := by kernel_rfl
theorem search_c1 (P : Params) (S : Setting) (v : Value) : peek (K0 P) S (checkBuiltinCall "re.Pattern.search" ⟨[.ref 196, v], []⟩) = some () := by kernel_rfl
theorem search_c2 (P : Params) (S : Setting) (v : Value) : peek (K0 P) S (checkBuiltinCall "re.Pattern.search" ⟨[.ref 201, v], []⟩) = some () := by kernel_rfl
def reOf (nm : Bool) : Addr := if nm then 196 else 201
def okText (nm : Bool) (x : Str) : Prop := ∀ (P : Params) (S : Setting) (t : Tok), peek (K0 P) S (Builtin.«re.Pattern.search» ⟨[.ref (reOf nm), .str x t], []⟩) = some (.done (.ret .none))
end
end Mine
end
noncomputable section
open PySem PySem.W PySem.Spec PySem.Calls PyProof.Rows
set_option maxRecDepth 100000
namespace Mine
section
variable {w : World} {r : Rst} {A : Around} {h : Heap} {env : Env} {Q : Value → Heap → Prop}
theorem conv_ (D : Wd w h) {self : Value} {x : Str} {t : Tok} {nm : Bool} (ok : okText nm x) {k : Nat} (R : Room A (k + 3)) (q : ∀ h', Kp h h' → Q (.str x t) h') : Wp w r A (call (.ref 231) [self, .str x t] [(s209, .bool nm)]) Q h := by
  refine callF D R (o := o231 w.params) (binds := [(s243, self), (s454, .str x t), (s209, .bool nm)]) (by kernel_rfl) rfl (by kernel_rfl) (fun tk => BindsTo.of_eq rfl) (by rfl) (fun L h₁ hL T R => ?_) (by decide) rfl rfl rfl
  have D1 := D.kp T.kp
  refine s_cons (s_if (t_cmp (c_fn (nmB D T g_type boot_type (w_ty (a_cons (nmL T rfl ?_)))))))
  refine a_nil (c_type (T := "str") (fun _ => rfl) (by decide) (nmB D T g_str boot_str (o_is rfl (t_bool ?_))))
  refine s_cons (s_asg (e_if (t_val (nmL T rfl ?_))))
  refine t_bool ?_
  cases nm with
  | true =>
    refine nmK D T g_nre (stL T fun h₂ T₂ => ?_)
    refine s_cons (s_if (t_val (c_me fun pl => nmL T₂ rfl ?_)))
    refine peekK (D.kp T₂.kp) (fun P S => search_m1 P S pl) (w_bi (a_cons (nmL T₂ rfl ?_)))
    refine a_nil (c_bi plain_search entry_search (peekK (D.kp T₂.kp) (fun P S => search_c1 P S _) (peekK (D.kp T₂.kp) (fun P S => ok P S t) ⟨_, rfl, t_none ?_⟩)))
    exact s_nil (s_cons (s_ret (nmL T₂ rfl (q h₂ T₂.kp))))
  | false =>
    refine nmK D T g_vre (stL T fun h₂ T₂ => ?_)
    refine s_cons (s_if (t_val (c_me fun pl => nmL T₂ rfl ?_)))
    refine peekK (D.kp T₂.kp) (fun P S => search_m2 P S pl) (w_bi (a_cons (nmL T₂ rfl ?_)))
    refine a_nil (c_bi plain_search entry_search (peekK (D.kp T₂.kp) (fun P S => search_c2 P S _) (peekK (D.kp T₂.kp) (fun P S => ok P S t) ⟨_, rfl, t_none ?_⟩)))
    exact s_nil (s_cons (s_ret (nmL T₂ rfl (q h₂ T₂.kp))))
end
end Mine
end
noncomputable section
open PySem PySem.W PySem.Spec PySem.Calls PyProof.Rows
set_option maxRecDepth 100000
namespace Mine
theorem At.pinNew {g h h' : Heap} {L I : Addr} {P : List (Addr × Obj)} {m : Str → Option Value} {o : Obj} (T : At g L P h m) (x : Kp h h') (n : h.get? I = none) (e : h'.get? I = some o) : At g L ((I, o) :: P) h' m := by
  have T' := T.ext x
  refine ⟨T'.ns, T'.kp, T'.out, fun p hp => ?_⟩
  rcases List.mem_cons.mp hp with rfl | hp
  · refine ⟨e, ?_, none_of_ext (Ext.of T.kp []) (by simp) n⟩
    rintro rfl
    obtain ⟨oL, _, _, hL, _⟩ := T.ns
    rw [hL] at n; cases n
  · exact T'.pin p hp
theorem At.unpin {g h : Heap} {L : Addr} {p : Addr × Obj} {P : List (Addr × Obj)} {m : Str → Option Value} (T : At g L (p :: P) h m) : At g L P h m := ⟨T.ns, T.kp, T.out, fun q hq => T.pin q (.tail _ hq)⟩
theorem At.pinUpd {g h h' : Heap} {L I : Addr} {P : List (Addr × Obj)} {m : Str → Option Value} {o o' : Obj} (T : At g L ((I, o) :: P) h m) (nI : ∀ p ∈ P, p.1 ≠ I) (x : Ext [I] h h') (e : h'.get? I = some o') : At g L ((I, o') :: P) h' m := by
  have q := T.pin (I, o) (.head _)
  obtain ⟨oL, a1, a2, hL, a3⟩ := T.ns
  refine ⟨⟨oL, a1, a2, x _ _ (by simpa using q.2.1.symm) hL, a3⟩, fun b o' e' => x _ _ ?_ (T.kp _ _ e'), T.out, fun p hp => ?_⟩
  · intro z
    rw [List.mem_singleton] at z
    subst z
    rw [q.2.2] at e'; cases e'
  · rcases List.mem_cons.mp hp with rfl | hp
    · exact ⟨e, q.2⟩
    · exact ⟨x _ _ (by simpa using nI p hp) (T.pin p (.tail _ hp)).1, (T.pin p (.tail _ hp)).2⟩
structure Src (w : World) (x : Value) (n : Nat) (Pv : Nat → Value → Prop) (It : Nat → Obj → Prop) (In : Heap → Prop) : Prop where
  keep : ∀ h h', In h → Kp h h' → In h'
  iter : ∀ (r : Rst) (A : Around) (h : Heap) (Q : Value → Heap → Prop), In h → (∀ I h' o, Kp h h' → h.get? I = none → h'.get? I = some o → It 0 o → Q (.ref I) h') → Wp w r A (pyIter x) Q h
  self : ∀ (r : Rst) (A : Around) (h : Heap) (I : Addr) (o : Obj) (i : Nat) (Q : Value → Heap → Prop), A.handled = none → h.get? I = some o → It i o → Q (.ref I) h → Wp w r A (pyIter (.ref I)) Q h
  item : ∀ (r : Rst) (A : Around) (h : Heap) (I : Addr) (o : Obj) (i : Nat) (Q : Option Value → Heap → Prop), In h → h.get? I = some o → It i o → i < n →
    (∀ v h' o', Pv i v → Ext [I] h h' → h'.get? I = some o' → It (i + 1) o' → Q (some v) h') → Wp w r A (pyNext (.ref I)) Q h
  done : ∀ (r : Rst) (A : Around) (h : Heap) (I : Addr) (o : Obj) (Q : Option Value → Heap → Prop), A.handled = none → In h → h.get? I = some o → It n o → (∀ h', Ext [I] h h' → Q none h') → Wp w r A (pyNext (.ref I)) Q h
  owned : ∀ (r : Rst) (A : Around) (h : Heap) (I : Addr) (o : Obj) (i : Nat) (t : Expr) (v : Value) (Q : Unit → Heap → Prop), h.get? I = some o → It i o → Q () h → Wp w r A (letOwnedTupleGo t (.ref I) v) Q h
theorem At.unpinUpd {g h h' : Heap} {L I : Addr} {P : List (Addr × Obj)} {m : Str → Option Value} {o : Obj} (T : At g L ((I, o) :: P) h m) (nI : ∀ p ∈ P, p.1 ≠ I) (x : Ext [I] h h') : At g L P h' m := by
  have q := T.pin (I, o) (.head _)
  obtain ⟨oL, a1, a2, hL, a3⟩ := T.ns
  refine ⟨⟨oL, a1, a2, x _ _ (by simpa using q.2.1.symm) hL, a3⟩, fun b o' e' => x _ _ ?_ (T.kp _ _ e'), T.out, fun p hp => ⟨x _ _ (by simpa using nI p hp) (T.pin p (.tail _ hp)).1, (T.pin p (.tail _ hp)).2⟩⟩
  intro z
  rw [List.mem_singleton] at z
  subst z
  rw [q.2.2] at e'; cases e'
section
variable {w : World} {r : Rst} {A : Around} {h : Heap} {env : Env}
structure Lp (w : World) (r : Rst) (A : Around) (target : Expr) (x : Value) (body orelse : List Stmt) (env : Env) (Q : Flow → Heap → Prop) (h : Heap) : Prop where
  run : ∀ E tk, wpAny (Md w) A (pyIter x) (fun it s₂ => codeAny (Md w) A (.forLoop target it body orelse env) (fun res s' => match res with | .ok f => Post r Q f s' | .error e => cameBackBy (Md w) A env E e s') s₂) E (stt r h tk)
theorem s_for {target iter : Expr} {body orelse : List Stmt} {pos : Pos} {Q : Flow → Heap → Prop} (p : Wp w r A (eval iter env) (fun x h₁ => Lp w r A target x body orelse env Q h₁) h)
    (hs : ∀ x, foldedSetIterable iter env x = Pure.pure x := by intro _; rfl) : Wp w r A (exec (.For target iter body orelse pos) env) Q h :=
  ⟨fun E tk => wpAny_For (p.into fun x h' tk' q => q.run E tk') hs⟩
theorem lp_src {x : Value} {n : Nat} {Pv : Nat → Value → Prop} {It : Nat → Obj → Prop} {In : Heap → Prop} (S : Src w x n Pv It In) (hh : A.handled = none) {g : Heap} {L : Addr} {P : List (Addr × Obj)} {m : Str → Option Value} {target : Expr} {body : List Stmt}
    {Q : Flow → Heap → Prop} (J : Nat → Heap → (Str → Option Value) → Prop) (T : At g L P h m) (j0 : J 0 g m) (hin : ∀ i g m, J i g m → In g)
    (turn : ∀ i v I o g m h, i < n → Pv i v → At g L ((I, o) :: P) h m → J i g m → Wp w r A (assign target env v) (fun _ h₂ => Wp w r A (execs body env) (fun f h₃ => match f with
        | .next | .cont => ∃ g' m', At g' L ((I, o) :: P) h₃ m' ∧ J (i + 1) g' m'
        | .brk => Q .next h₃
        | .ret v => Q (.ret v) h₃) h₂) h)
    (fin : ∀ g m h, At g L P h m → J n g m → Q .next h) : Lp w r A target x body [] env Q h := by
  refine ⟨fun E tk => (S.iter r A h (fun v h' => ∃ I o, v = .ref I ∧ Kp h h' ∧ h.get? I = none ∧ h'.get? I = some o ∧ It 0 o) (S.keep _ _ (hin _ _ _ j0) T.kp) (fun I h' o k nI e it => ⟨I, o, rfl, k, nI, e, it⟩)).into fun v h₁ tk₁ z => ?_⟩
  obtain ⟨I, o, rfl, k, nI, e, it⟩ := z
  have T1 := T.pinNew k nI e
  have pI : ∀ p ∈ P, p.1 ≠ I := fun p hp q => by
    have := (T.pin p hp).1
    rw [q, nI] at this; cases this
  refine codeAny_forLoop_any (fun k s => ∃ i h tk g m o, s = stt r h tk ∧ i ≤ n ∧ k = n + 1 - i ∧ It i o ∧ At g L ((I, o) :: P) h m ∧ J i g m) ?_ (n + 1) ⟨0, h₁, tk₁, g, m, o, rfl, Nat.zero_le _, rfl, it, T1, j0⟩
  rintro k s ⟨i, h, tk, g, m, o, rfl, hi, rfl, it, T, j⟩
  have eI := (T.pin (I, o) (.head _)).1
  rcases Nat.lt_or_ge i n with lt | ge
  · refine (S.item r A h I o i (fun v h' => ∃ u o', v = some u ∧ Pv i u ∧ Ext [I] h h' ∧ h'.get? I = some o' ∧ It (i + 1) o') (S.keep _ _ (hin _ _ _ j) T.kp) eI it lt (fun v h' o' pv x' e' it' => ⟨v, o', rfl, pv, x', e', it'⟩)).into fun v h₂ tk₂ z => ?_
    obtain ⟨u, o', rfl, pv, x', e', it'⟩ := z
    have T2 := T.pinUpd pI x' e'
    refine (S.owned r A h₂ I o' (i + 1) target u (fun _ h' => h' = h₂) e' it' rfl).into fun _ h₃ tk₃ z => ?_
    subst z
    refine (turn i u I o' g m _ lt pv T2 j).into fun _ h₄ tk₄ z => z.into fun f h₅ tk₅ z => ?_
    cases f with
    | next => obtain ⟨g', m', T', j'⟩ := z; exact ⟨n + 1 - (i + 1), by omega, i + 1, h₅, tk₅, g', m', o', rfl, lt, rfl, it', T', j'⟩
    | cont => obtain ⟨g', m', T', j'⟩ := z; exact ⟨n + 1 - (i + 1), by omega, i + 1, h₅, tk₅, g', m', o', rfl, lt, rfl, it', T', j'⟩
    | brk => exact ⟨h₅, tk₅, rfl, z⟩
    | ret v => exact ⟨h₅, tk₅, rfl, z⟩
  · have en : i = n := Nat.le_antisymm hi ge
    subst en
    refine (S.done r A h I o (fun v h' => v = none ∧ Ext [I] h h') hh (S.keep _ _ (hin _ _ _ j) T.kp) eI it (fun h' x' => ⟨rfl, x'⟩)).into fun v h₂ tk₂ z => ?_
    obtain ⟨rfl, x'⟩ := z
    exact wpAny_execs_nil ⟨h₂, tk₂, rfl, fin g m h₂ (T.unpinUpd pI x') j⟩
end
def LiterAt (l : Addr) (i : Nat) (o : Obj) : Prop := o.cls = .type "list_iterator" ∧ o.data = .fields #[.ref l, .int i 0]
def SiterAt (ty : String) (x : Str) (t : Tok) (i : Nat) (o : Obj) : Prop := o.cls = .type ty ∧ o.data = .fields #[.str x t, .int i 0]
theorem noOwned {w : World} {r : Rst} {A : Around} {h : Heap} {I : Addr} {o : Obj} {t : Expr} {v : Value} {n : String} {a b : Value} {Q : Unit → Heap → Prop} (e : h.get? I = some o) (hc : o.cls = .type n) (hd : o.data = .fields #[a, b]) (ha : ∀ T, ((some a : Option Value) == some (rawInt T)) = false) (q : Q () h) : Wp w r A (letOwnedTupleGo t (.ref I) v) Q h := by
  refine ⟨fun E tk => ?_⟩
  unfold letOwnedTupleGo
  cases t <;> first
    | exact wpAny_pure ⟨h, tk, rfl, q⟩
    | (cases v <;> first
       | exact wpAny_pure ⟨h, tk, rfl, q⟩
       | (refine wpAny_bind (wpAny_load (s := stt r h tk) e ?_)
          rw [hc, hd]
          dsimp only
          rw [show (#[a, b] : Array Value)[0]? = some a from rfl, ha, Bool.and_false, if_neg (by decide)]
          exact wpAny_pure ⟨h, tk, rfl, q⟩))
theorem Src.list (w : World) (l : Addr) (vs : List Value) : Src w (.ref l) vs.length (fun i v => vs[i]? = some v) (LiterAt l) (fun h => ∃ n, h.get? l = some (listO vs n)) where
  keep := fun h h' ⟨n, e⟩ k => ⟨n, k _ _ e⟩
  iter := fun r A h Q ⟨n, e⟩ q => ⟨fun E tk => wpAny_pyIter_list (s := stt r h tk) (items := vs.toArray) ⟨_, e, rfl, n, rfl⟩ ⟨_, tk, rfl, q _ _ _ (kpush _ _) (fresh_none fun _ _ e => e) (Heap.get?_push_size _ rfl) ⟨rfl, rfl⟩⟩⟩
  self := fun r A h I o i Q _ e it q => ⟨fun E tk => wpAny_pyIter_listiter (s := stt r h tk) (l := l) (i := i) ⟨o, e, it.1, it.2⟩ ⟨h, tk, rfl, q⟩⟩
  item := fun r A h I o i Q ⟨n, e⟩ eI it lt q => ⟨fun E tk => wpAny_pyNext_list_item (s := stt r h tk) (x := vs[i]) ⟨o, eI, it.1, it.2⟩ (items := vs.toArray) ⟨_, e, rfl, n, rfl⟩ (by simp [lt]) fun h' it' hs => by
    obtain ⟨o', e', c', d'⟩ := it'
    exact ⟨h', tk, rfl, q _ h' o' (by simp [lt]) (.sameBut hs) e' ⟨c', d'⟩⟩⟩
  done := fun r A h I o Q hh ⟨n, e⟩ eI it q => ⟨fun E tk => wpAny_pyNext_list_end (s := stt r h tk) hh ⟨o, eI, it.1, it.2⟩ (items := vs.toArray) ⟨_, e, rfl, n, rfl⟩ (by simp) fun h' x => ⟨h', tk, rfl, q h' fun b o nb e => x b o (by simpa using nb) e⟩⟩
  owned := fun r A h I o i t v Q e it q => noOwned e it.1 it.2 (fun T => rfl) q
theorem Src.str (w : World) (x : Str) (t : Tok) : ∃ It, Src w (.str x t) x.cps.size (fun i v => ∃ c tk, x.cps[i]? = some c ∧ v = .str ⟨#[c]⟩ tk) It (fun _ => True) := by
  cases ha : x.cps.all (· < 128) with
  | true =>
    refine ⟨SiterAt "str_ascii_iterator" x t, fun _ _ _ _ => trivial, fun r A h Q _ q => ⟨fun E tk => wpAny_pyIter_ascii (s := stt r h tk) ha ⟨_, tk, rfl, q _ _ _ (kpush _ _) (fresh_none fun _ _ e => e) (Heap.get?_push_size _ rfl) ⟨rfl, rfl⟩⟩⟩, ?_, fun r A h I o i Q _ eI it lt q => ⟨fun E tk => ?_⟩, fun r A h I o Q hh _ eI it q => ⟨fun E tk => ?_⟩, fun r A h I o i t v Q e it q => noOwned e it.1 it.2 (fun T => rfl) q⟩
    · intro r A h I o i Q hh e it q
      exact ⟨fun E tk => (Walks.strAscii (prog := PW) (w := w) (A := A) hh I x t).self i (stt r h tk) _ E ⟨o, e, it.1, it.2⟩ ⟨h, tk, rfl, q⟩⟩
    · refine wpAny_pyNext_ascii_item (s := stt r h tk) (c := x.cps[i]) ⟨o, eI, it.1, it.2⟩ (by simp [lt]) fun h' it' hs => ?_
      obtain ⟨o', e', c', d'⟩ := it'
      exact ⟨h', tk + 1, rfl, q _ h' o' ⟨_, _, by simp [lt], rfl⟩ (.sameBut hs) e' ⟨c', d'⟩⟩
    · exact wpAny_pyNext_ascii_end (s := stt r h tk) hh ⟨o, eI, it.1, it.2⟩ (by simp) fun h' x => ⟨h', tk, rfl, q h' fun b o nb e => x b o (by simpa using nb) e⟩
  | false =>
    refine ⟨SiterAt "str_iterator" x t, fun _ _ _ _ => trivial, fun r A h Q _ q => ⟨fun E tk => wpAny_pyIter_wide (s := stt r h tk) ha ⟨_, tk, rfl, q _ _ _ (kpush _ _) (fresh_none fun _ _ e => e) (Heap.get?_push_size _ rfl) ⟨rfl, rfl⟩⟩⟩, ?_, fun r A h I o i Q _ eI it lt q => ⟨fun E tk => ?_⟩, fun r A h I o Q hh _ eI it q => ⟨fun E tk => ?_⟩, fun r A h I o i t v Q e it q => noOwned e it.1 it.2 (fun T => rfl) q⟩
    · intro r A h I o i Q hh e it q
      exact ⟨fun E tk => (Walks.strWide (prog := PW) (w := w) (A := A) hh I x t).self i (stt r h tk) _ E ⟨o, e, it.1, it.2⟩ ⟨h, tk, rfl, q⟩⟩
    · refine wpAny_pyNext_wide_item (s := stt r h tk) (c := x.cps[i]) ⟨o, eI, it.1, it.2⟩ (by simp [lt]) fun h' it' hs => ?_
      obtain ⟨o', e', c', d'⟩ := it'
      exact ⟨h', tk + 1, rfl, q _ h' o' ⟨_, _, by simp [lt], rfl⟩ (.sameBut hs) e' ⟨c', d'⟩⟩
    · exact wpAny_pyNext_wide_end (s := stt r h tk) hh ⟨o, eI, it.1, it.2⟩ (by simp) fun h' x => ⟨h', tk, rfl, q h' fun b o nb e => x b o (by simpa using nb) e⟩
end Mine
end
noncomputable section
open PySem PySem.W PySem.Spec PySem.Calls PyProof.Rows
set_option maxRecDepth 100000
namespace Mine
def lo (j : Nat) : Str := ⟨#[97 + j]⟩
def up (j : Nat) : Str := ⟨#[65 + j]⟩
def sd (b : Bool) : Str := if b then ⟨#[61]⟩ else ⟨#[120]⟩
theorem ok_lo : ∀ j, j < 8 → okText true (lo j) := by
  intro j hj P S t
  match j, hj with
  | 0, _ => kernel_rfl
  | 1, _ => kernel_rfl
  | 2, _ => kernel_rfl
  | 3, _ => kernel_rfl
  | 4, _ => kernel_rfl
  | 5, _ => kernel_rfl
  | 6, _ => kernel_rfl
  | 7, _ => kernel_rfl
theorem ok_up : ∀ j, j < 8 → okText true (up j) := by
  intro j hj P S t
  match j, hj with
  | 0, _ => kernel_rfl
  | 1, _ => kernel_rfl
  | 2, _ => kernel_rfl
  | 3, _ => kernel_rfl
  | 4, _ => kernel_rfl
  | 5, _ => kernel_rfl
  | 6, _ => kernel_rfl
  | 7, _ => kernel_rfl
theorem ok_sd : ∀ b, okText false (sd b) := by
  intro b P S t
  cases b <;> kernel_rfl
theorem low_lo : ∀ j, j < 8 → Txt.lower (lo j) = lo j := by
  intro j hj
  match j, hj with
  | 0, _ => kernel_rfl
  | 1, _ => kernel_rfl
  | 2, _ => kernel_rfl
  | 3, _ => kernel_rfl
  | 4, _ => kernel_rfl
  | 5, _ => kernel_rfl
  | 6, _ => kernel_rfl
  | 7, _ => kernel_rfl
theorem low_up : ∀ j, j < 8 → Txt.lower (up j) = lo j := by
  intro j hj
  match j, hj with
  | 0, _ => kernel_rfl
  | 1, _ => kernel_rfl
  | 2, _ => kernel_rfl
  | 3, _ => kernel_rfl
  | 4, _ => kernel_rfl
  | 5, _ => kernel_rfl
  | 6, _ => kernel_rfl
  | 7, _ => kernel_rfl
theorem up_lo : ∀ j, j < 8 → Txt.upper (lo j) = up j := by
  intro j hj
  match j, hj with
  | 0, _ => kernel_rfl
  | 1, _ => kernel_rfl
  | 2, _ => kernel_rfl
  | 3, _ => kernel_rfl
  | 4, _ => kernel_rfl
  | 5, _ => kernel_rfl
  | 6, _ => kernel_rfl
  | 7, _ => kernel_rfl
section
variable {w : World} {r : Rst} {A : Around} {h : Heap} {env : Env} {Q : Value → Heap → Prop} {x y : Str} {t u : Tok} {pl : Sem Bool}
theorem g_lower {Q : Value × List Value → Heap → Prop} (q : Q (.builtin "str.lower", [.str x t]) h) : Wp w r A (getMethod (.str x t) "lower" pl) Q h := by
  have z : ∀ tk, Post r Q (.builtin "str.lower", [.str x t]) (stt r h tk) := fun tk => ⟨h, tk, rfl, q⟩
  refine ⟨fun E tk => ?_⟩
  with_reducible exact GM.lower (z tk)
theorem g_upper {Q : Value × List Value → Heap → Prop} (q : Q (.builtin "str.upper", [.str x t]) h) : Wp w r A (getMethod (.str x t) "upper" pl) Q h := by
  have z : ∀ tk, Post r Q (.builtin "str.upper", [.str x t]) (stt r h tk) := fun tk => ⟨h, tk, rfl, q⟩
  refine ⟨fun E tk => ?_⟩
  with_reducible exact GM.upper (z tk)
theorem g_index {Q : Value × List Value → Heap → Prop} (q : Q (.builtin "str.index", [.str x t]) h) : Wp w r A (getMethod (.str x t) "index" pl) Q h := by
  have z : ∀ tk, Post r Q (.builtin "str.index", [.str x t]) (stt r h tk) := fun tk => ⟨h, tk, rfl, q⟩
  refine ⟨fun E tk => ?_⟩
  with_reducible exact GM.index (z tk)
theorem g_join {Q : Value × List Value → Heap → Prop} (q : Q (.builtin "str.join", [.str x t]) h) : Wp w r A (getMethod (.str x t) "join" pl) Q h := by
  have z : ∀ tk, Post r Q (.builtin "str.join", [.str x t]) (stt r h tk) := fun tk => ⟨h, tk, rfl, q⟩
  refine ⟨fun E tk => ?_⟩
  with_reducible exact GM.join (z tk)
theorem c_lower (hf : Builtin.Str.tooLong (Txt.lower x).length = false) (q : ∀ t', Q (.str (Txt.lower x) t') h) : Wp w r A (call (.builtin "str.lower") [.str x t]) Q h := ⟨fun _ tk => SC.lower (s := stt r h tk) hf ⟨h, tk + 1, rfl, q _⟩⟩
theorem c_upper (hf : Builtin.Str.tooLong (Txt.upper x).length = false) (q : ∀ t', Q (.str (Txt.upper x) t') h) : Wp w r A (call (.builtin "str.upper") [.str x t]) Q h := ⟨fun _ tk => SC.upper (s := stt r h tk) hf ⟨h, tk + 1, rfl, q _⟩⟩
theorem o_eqs (q : Q (.bool (x.cps.toList == y.cps.toList)) h) : Wp w r A (compareOp .Eq (.str x t) (.str y u)) Q h := ⟨fun _ tk => PySem.P.eq_str (s := stt r h tk) ⟨h, tk, rfl, q⟩⟩
theorem a_name {nm : Str} {pos : Pos} {v : Value} {Q : Unit → Heap → Prop} (p : Wp w r A (storeName env nm v) Q h) : Wp w r A (assign (.Name nm pos) env v) Q h := ⟨fun E tk => wpAny_assign_Name (p.run E tk)⟩
theorem a_tup {elts : List Expr} {k : Nat} {pos : Pos} {T : Addr} {vs : List Value} {Q : Unit → Heap → Prop} (hh : A.handled = none) (e : h.get? T = some (tupO vs)) (p : ∀ h', Kp h h' → Wp w r A (assignInOrder ((assignEach elts env).map (·.2)) vs) Q h')
    (hn : (assignEach elts env).length = vs.length) (hstar : (assignEach elts env).findIdx? (·.1) = none) : Wp w r A (assign (.Tuple elts k pos) env (.ref T)) Q h :=
  ⟨fun E tk => wpAny_assign_Tuple (s := stt r h tk) hh (items := vs.toArray) ⟨_, e, rfl, 0, rfl⟩ (by simpa using hn) hstar fun h' x => by
    have k : Kp h h' := fun b o eb => x b o (Nat.ne_of_lt (Heap.lt_size eb)) eb
    simpa using (p h' k).run E tk⟩
theorem io_nil {Q : Unit → Heap → Prop} (q : Q () h) : Wp w r A (assignInOrder [] []) Q h := ⟨fun _ tk => wpAny_pure ⟨h, tk, rfl, q⟩⟩
theorem io_cons {f : Value → Sem Unit} {ts : List (Value → Sem Unit)} {v : Value} {vs : List Value} {Q : Unit → Heap → Prop} (p : Wp w r A (f v) (fun _ h' => Wp w r A (assignInOrder ts vs) Q h') h) : Wp w r A (assignInOrder (f :: ts) (v :: vs)) Q h := by
  rw [assignInOrder]
  exact .bind (.holding p)
end
end Mine
end
noncomputable section
open PySem PySem.W PySem.Spec PySem.Calls PyProof.Rows
set_option maxRecDepth 100000
namespace Mine
noncomputable def hdrS : Str := ⟨⟨[95, 104, 101, 97, 100, 101, 114, 115]⟩⟩
def TupAt (h : Heap) (T : Addr) (p : Nat × Bool) : Prop := ∃ t t', h.get? T = some (tupO [.str (up p.1) t, .str (sd p.2) t'])
noncomputable abbrev hdrD (w : World) (l : Addr) (t : Tok) : Obj := dictOf [⟨kh w.params hdrS, .str hdrS t, .ref l⟩] 1
structure Hdr (w : World) (h : Heap) (x d l : Addr) (hs : List (Nat × Bool)) : Prop where
  obj : h.get? x = some (instObj 332 d)
  dict : ∃ t, h.get? d = some (hdrD w l t)
  lst : ∃ (Ts : List Addr) (n : Nat), h.get? l = some (listO (Ts.map .ref) n) ∧ Paired (TupAt h) Ts hs
theorem Paired.imp {α β : Type} {F G : α → β → Prop} (k : ∀ a b, F a b → G a b) : ∀ {l₁ : List α} {l₂ : List β}, Paired F l₁ l₂ → Paired G l₁ l₂
  | _, _, .nil => .nil
  | _, _, .cons h t => .cons (k _ _ h) (Paired.imp k t)
theorem Paired.at {α β : Type} {F : α → β → Prop} : ∀ {l₁ : List α} {l₂ : List β}, Paired F l₁ l₂ → ∀ {i : Nat} {a : α}, l₁[i]? = some a → ∃ b, l₂[i]? = some b ∧ F a b
  | _, _, .nil, _, _, e => by simp at e
  | _, _, .cons h t, 0, _, e => by simp at e; subst e; exact ⟨_, by simp, h⟩
  | _, _, .cons _ t, i + 1, _, e => by simpa using Paired.at t (by simpa using e)
theorem TupAt.ext {h h' : Heap} {W : List Addr} {T : Addr} {p : Nat × Bool} (e : TupAt h T p) (x : Ext W h h') (n : ∀ a ∈ W, ∀ vs, h.get? a ≠ some (tupO vs)) : TupAt h' T p := by
  obtain ⟨t, t', e⟩ := e
  exact ⟨t, t', x _ _ (fun q => n _ q _ e) e⟩
theorem Hdr.kp {w : World} {h h' : Heap} {x d l : Addr} {hs : List (Nat × Bool)} (B : Hdr w h x d l hs) (k : Kp h h') : Hdr w h' x d l hs :=
  ⟨k _ _ B.obj, let ⟨t, e⟩ := B.dict; ⟨t, k _ _ e⟩, let ⟨Ts, n, e, p⟩ := B.lst; ⟨Ts, n, k _ _ e, Paired.imp (fun a b ⟨t, t', e⟩ => ⟨t, t', k _ _ e⟩) p⟩⟩
theorem hdr_ga (P : Params) : findIn (K0 P) (.ref 332) "__getattribute__" = some (some (.builtin "object.__getattribute__")) := by kernel_rfl
theorem hdr_gat (P : Params) : findIn (K0 P) (.ref 332) "__getattr__" = some none := by kernel_rfl
theorem hdr_conv (P : Params) : findIn (K0 P) (.ref 332) "_convert_string_type" = some (some (.ref 231)) := by kernel_rfl
theorem Hdr.inst {w : World} {h : Heap} {x d l : Addr} {hs : List (Nat × Bool)} (B : Hdr w h x d l hs) : ∃ t, InstAt h x (instObj 332 d) 332 (some (hdrD w l t)) :=
  let ⟨t, e⟩ := B.dict; ⟨t, B.obj, rfl, rfl, e⟩
theorem hdr_find (P : Params) (l : Addr) (t : Tok) (hsh : Int) : findObj (K0 P) 332 (some (dictOf [⟨hsh, .str hdrS t, .ref l⟩] 1)) hdrS = some (.value (.ref l)) := by kernel_rfl
section
variable {w : World} {r : Rst} {A : Around} {h : Heap} {env : Env} {Q : Value → Heap → Prop}
theorem e_attr {x attr : Str} {xp pos : Pos} (p : Wp w r A (eval (.Name x xp) env) (fun o h₁ => Wp w r A (getAttr o attr true) Q h₁) h)
    (he : eval (.Attribute (.Name x xp) attr pos) env = (do
      let o ← eval (.Name x xp) env
      PySem.standAt pos.atName
      let r ← PySem.holding [o] (getAttr o attr true)
      letTemporaryGo (.Name x xp) o r
      Pure.pure r) := by with_unfolding_all rfl) : Wp w r A (eval (.Attribute (.Name x xp) attr pos) env) Q h := ⟨fun E _ => Attribute_Name_ (p.into fun _ _ tk p => p.run E tk) he⟩
theorem get_hdrs {x d l : Addr} {hs : List (Nat × Bool)} {b : Bool} (D : Wd w h) (B : Hdr w h x d l hs) (q : Q (.ref l) h) : Wp w r A (getAttr (.ref x) hdrS b) Q h := by
  obtain ⟨t, I⟩ := B.inst
  exact ⟨fun E tk => get_value (s := stt r h tk) D.X I (hdr_ga _) (hdr_find _ _ _ _) rfl ⟨h, tk + 1, rfl, q⟩⟩
theorem m_conv {x d : Addr} {od : Obj} {pl : Sem Bool} {Q : Value × List Value → Heap → Prop} (D : Wd w h) (I : InstAt h x (instObj 332 d) 332 (some od)) (hs : shadowIn (some od) "_convert_string_type" = some false) (q : Q (.ref 231, [.ref x]) h) : Wp w r A (getMethod (.ref x) "_convert_string_type" pl) Q h :=
  m_fn D.X I (hdr_ga _) PySem.F.canon_object_ga (hdr_gat _) (hdr_conv _) (by kernel_rfl) hs q
def gotOf (hs : List (Nat × Bool)) (j : Nat) (v : Value) : Prop := match hs.find? (fun p => p.1 == j) with
  | some p => ∃ t, v = .str (sd p.2) t
  | none => v = .none
theorem lo_inj {i j : Nat} (h : (lo i).cps.toList = (lo j).cps.toList) : i = j := by
  simp [lo] at h; exact h
theorem tl_lo (j : Nat) (hj : j < 8) : Builtin.Str.tooLong (Txt.lower (lo j)).length = false := by rw [low_lo j hj]; show decide (1 > sizeLine) = false; decide +kernel
theorem tl_up (j : Nat) (hj : j < 8) : Builtin.Str.tooLong (Txt.lower (up j)).length = false := by rw [low_up j hj]; show decide (1 > sizeLine) = false; decide +kernel
theorem look_272 (P : Params) : (K0 P).lookup 272 = some (o272 P) := by kernel_rfl
theorem get_ {x d l : Addr} {hs : List (Nat × Bool)} (D : Wd w h) (B : Hdr w h x d l hs) (hok : ∀ p ∈ hs, p.1 < 8) {j : Nat} (hj : j < 8) {t : Tok} {k : Nat} (R : Room A (k + 6)) (q : ∀ h' v, Kp h h' → gotOf hs j v → Q v h') :
    Wp w r A (call (.ref 279) [.ref x, .str (lo j) t]) Q h := by
  refine callF D R (o := o279 w.params) (binds := [(s243, .ref x), (s209, .str (lo j) t), (s481, .none)]) (by kernel_rfl) rfl (by kernel_rfl) (fun tk => BindsTo.of_defaults (s := stt r h tk) (T := 272) rfl (D.X _ _ (look_272 _)) rfl rfl rfl) (by rfl) (fun L h₁ hL T R => ?_) (by decide) rfl rfl rfl
  have D1 := D.kp T.kp
  obtain ⟨td, I⟩ := (B.kp T.kp).inst
  refine s_cons (s_asg (c_meK fun pl => nmL T rfl ?_))
  refine m_conv D1 I rfl (w_kw D (fun P => by kernel_rfl) (a_cons (c_me fun pl => nmL T rfl ?_)))
  refine g_lower (w_bi0 (c_lower (tl_lo j hj) fun t₁ => ?_))
  rw [low_lo j hj]
  refine a_nil (k_cons (e_bool (k_nil ⟨T.kp, ?_⟩)))
  refine conv_ D1 (nm := true) (ok_lo j hj) (R.le (Nat.le_add_right _ 2)) (fun h₂ k₂ => stL (T.ext k₂) fun h₃ T₃ => ?_)
  obtain ⟨Ts, n, eL, pr⟩ := B.lst
  refine s_cons (s_for (e_attr (nmL T₃ rfl (get_hdrs (D.kp T₃.kp) (B.kp T₃.kp) ?_))))
  refine lp_src (Src.list w l (Ts.map .ref)) R.handled (fun i g m => g = h ∧ m s209 = some (.str (lo j) t₁) ∧ m s481 = some .none ∧ ∀ p ∈ hs.take i, p.1 ≠ j) T₃ ⟨rfl, rfl, rfl, by simp⟩ (fun i g m z => z.1 ▸ ⟨n, eL⟩) ?_ ?_
  · rintro i v I o g m h₄ lt hv T₄ ⟨rfl, m1, m2, m3⟩
    simp only [List.getElem?_map, Option.map_eq_some_iff] at hv
    obtain ⟨Ti, hTi, rfl⟩ := hv
    obtain ⟨p, hp, ta, tb, eT⟩ := Paired.at pr hTi
    refine a_tup R.handled (T₄.kp _ _ eT) (fun h₅ k₅ => ?_) rfl rfl
    refine io_cons (a_name (stL (T₄.ext k₅) fun h₆ T₆ => io_cons (a_name (stL T₆ fun h₇ T₇ => io_nil ?_))))
    refine s_cons (s_if (t_cmp (c_me fun pl => nmL T₇ rfl ?_)))
    have hp8 : p.1 < 8 := hok p (List.mem_of_getElem? hp)
    refine g_lower (w_bi0 (c_lower (tl_up p.1 hp8) fun t₂ => ?_))
    rw [low_up p.1 hp8]
    refine nmL T₇ m1 (o_eqs (t_bool ?_))
    by_cases e : p.1 = j
    · rw [show ((lo p.1).cps.toList == (lo j).cps.toList) = true from by rw [e]; exact beq_self_eq_true _]
      refine s_cons (s_ret (nmL T₇ rfl (q h₇ _ T₇.kp ?_)))
      unfold gotOf
      have : hs.find? (fun p => p.1 == j) = some p := List.find?_eq_some_iff_getElem.mpr ⟨by simp [e], i, (List.getElem?_eq_some_iff.mp hp).1, (List.getElem?_eq_some_iff.mp hp).2, fun i' hi' => by
        have hl : i' < hs.length := Nat.lt_trans hi' (List.getElem?_eq_some_iff.mp hp).1
        have := m3 hs[i'] (List.mem_take_iff_getElem.mpr ⟨i', by omega, rfl⟩)
        simpa using this⟩
      rw [this]
      exact ⟨tb, rfl⟩
    · rw [show ((lo p.1).cps.toList == (lo j).cps.toList) = false from beq_eq_false_iff_ne.mpr fun z => e (lo_inj z)]
      refine s_nil (s_nil ⟨g, _, T₇, rfl, m1, m2, fun p' hp' => ?_⟩)
      rw [List.take_add_one, hp] at hp'
      rcases List.mem_append.mp hp' with z | z
      · exact m3 p' z
      · simp at z; subst z; exact e
  · rintro g m h₄ T₄ ⟨rfl, m1, m2, m3⟩
    refine s_cons (s_ret (nmL T₄ m2 (q h₄ _ T₄.kp ?_)))
    unfold gotOf
    have : hs.find? (fun p => p.1 == j) = none := List.find?_eq_none.mpr fun p hp => by
      have := m3 p (by rw [List.length_map, Paired.length pr, List.take_length]; exact hp)
      simpa using this
    rw [this]
end
end Mine
end
noncomputable section
open PySem PySem.W PySem.Spec PySem.Calls PyProof.Rows
set_option maxRecDepth 100000
namespace Mine
section
variable {w : World} {r : Rst} {A : Around} {h : Heap} {env : Env} {Q : Value → Heap → Prop}
theorem refuse_hdr (self : Value) : refuseLoop self "__setattr__" [.ref 332, .type "object"] = pure () := by kernel_rfl
theorem hdr_set (P : Params) : findIn (K0 P) (.ref 332) "__setattr__" = some (some (.builtin "object.__setattr__")) := by kernel_rfl
theorem hdr_no (P : Params) : findIn (K0 P) (.ref 332) hdrS = some none := by kernel_rfl
theorem hdr_cls (P : Params) : ∃ cd, clsIn (K0 P) 332 = some cd ∧ cd.mro = [.ref 332, .type "object"] ∧ cd.hasDict = true := ⟨_, rfl, rfl, rfl⟩
theorem set_hdr {x d : Addr} {v : Value} {Q : Unit → Heap → Prop} (D : Wd w h) (e1 : h.get? x = some (instObj 332 d)) (e2 : h.get? d = some emptyDict)
    (q : ∀ h' t, Ext [d] h h' → h'.get? d = some (dictOf [⟨kh w.params hdrS, .str hdrS t, v⟩] 1) → Q () h') : Wp w r A (setAttr (.ref x) hdrS v) Q h := by
  have X := D.X
  have I : InstAt h x (instObj 332 d) 332 (some emptyDict) := ⟨e1, rfl, rfl, e2⟩
  obtain ⟨cd, c1, c2, c4⟩ := hdr_cls w.params
  have hm : Looks (Md w) h (mroOf (.ref 332)) [.ref 332, .type "object"] := c2 ▸ (looks_clsIn X c1).andThen .now
  have t1 : Looks (Md w) h (typeOf (.ref x)) (.ref 332) := I.type
  have f1 : Looks (Md w) h (typeLookup (.ref 332) hdrS) none := looks_findIn X (hdr_no _)
  have c3 := looks_clsIn (M := Md w) X c1
  have SF := PySem.F.store_object
  have sub : Looks (Md w) h (isInstance (.ref x) (.type "object")) true := I.type.andThen (looks_mroIn X (by kernel_rfl))
  refine ⟨fun E tk => set_plain (s := stt r h tk) X I (hdr_set _) ?_⟩
  refine codeAny_call_builtin SF.slot.plain SF.entry (@check_slot (Md w) _ _ (stt r h (tk + 1)) "object.__setattr__" "object" "__setattr__" (.ref x) [.str hdrS tk, v] [] _ SF.kind SF.split sub (SF.args (.ref x) (.str hdrS tk) v) ?_)
  rw [osa_eq, refuse_eq]
  refine wpAny_bind (wpAny_bind (t1.here (wpAny_bind (hm.here ?_))))
  rw [refuse_hdr]
  refine wpAny_pure (wpAny_bind (t1.here (wpAny_bind (f1.here ?_))))
  repeat lk
  rw [c4]
  repeat lk
  refine nd_upd e2 ?_
  have e3 : (h.update d (Obj.putName hdrS (kh w.params hdrS) (.str hdrS (tk + 1)) v)).get? d = some (dictOf [⟨kh w.params hdrS, .str hdrS (tk + 1), v⟩] 1) := Heap.get?_update_self _ e2 rfl
  refine wpAny_pure ?_
  refine wpAny_bind (wpAny_lookBehind e3 (pastItsLine_dict (by rw [sizeLine_eq]; exact (by decide : 1 ≤ 16777216 + 1))) ?_)
  exact wpAny_pure ⟨_, _, rfl, q _ _ (Mine.Ext.upd _ _ _) e3⟩
theorem hdr_init (P : Params) : findIn (K0 P) (.ref 332) "__init__" = some (some (.ref 224)) := by kernel_rfl
theorem hdr_makes (P : Params) : makesIn (K0 P) 332 = true := by kernel_rfl
theorem look_217 (P : Params) : (K0 P).lookup 217 = some (o217 P) := by kernel_rfl
theorem g_list (P : Params) : nsIn (K0 P) mainGlobals "list" = some none := by kernel_rfl
theorem boot_list : bootBuiltins "list" = some (.type "list") := by kernel_rfl
theorem init_hdr {b : Heap} (Db : Wd w b) (kb : Kp b h) {x d : Addr} (e1 : h.get? x = some (instObj 332 d)) (e2 : h.get? d = some emptyDict) (hd : d ≠ x) (n2 : b.get? d = none) {k : Nat} (R : Room A (k + 3))
    (q : ∀ h' l, Ext [d] h h' → h.get? l = none → Hdr w h' x d l [] → Q .none h') : Cd w r A (.call (.ref 224) ⟨[.ref x], []⟩) Q h := by
  have D := Db.kp kb
  refine codeF D R (o := o224 w.params) (binds := [(s243, .ref x), (s470, .none)]) (by kernel_rfl) rfl (by kernel_rfl) (fun tk => BindsTo.of_defaults (s := stt r h tk) (T := 217) rfl (D.X _ _ (look_217 _)) rfl rfl rfl) (by rfl) (fun L h₁ hL T R => .any ?_) (by decide) rfl rfl rfl
  refine s_cons (s_asg (e_if (t_cmp (nmL T rfl ?_))))
  refine e_none (o_isNot rfl (t_bool ?_))
  refine e_list (a_nil (n_list fun l h₂ k₂ nl e₂ => ?_))
  obtain ⟨g₁, T₁, kg, ng⟩ := T.anew0 k₂
  have el : g₁.get? l = some (listO []) := ng _ _ nl e₂
  have kb1 : Kp b g₁ := fun a o e => kg _ _ (kb _ _ e)
  have D1 := Db.kp kb1
  refine stL T₁ fun h₃ T₃ => ?_
  refine s_cons (s_if (t_cmp (c_fn (nmB D1 T₃ g_type boot_type (w_ty (a_cons (nmL T₃ rfl ?_)))))))
  refine a_nil (c_type (T := "list") (fun tk => ⟨_, T₃.kp _ _ el, rfl⟩) (by decide) (nmB D1 T₃ g_list boot_list (o_isNot rfl (t_bool ?_))))
  refine s_nil (s_cons (s_asgA (nmL T₃ rfl (nmL T₃ rfl ?_))))
  have d1 : g₁.get? d = some emptyDict := kg _ _ e2
  refine set_hdr (D1.kp T₃.kp) (T₃.kp _ _ (kg _ _ e1)) (T₃.kp _ _ d1) (fun h₄ t x₄ e₄ => ?_)
  obtain ⟨g₂, T₄, x₂, n₂⟩ := T₃.anew x₄ (fun a ha => ⟨_, (List.mem_singleton.mp ha) ▸ d1⟩)
  have hld : l ≠ d := ne_of el d1 (by simp)
  have el2 : g₂.get? l = some (listO []) := x₂ _ _ (by simpa using hld) el
  have ed2 : g₂.get? d = some (hdrD w l t) := n₂ _ _ (.inr (by simp)) e₄
  have ex2 : g₂.get? x = some (instObj 332 d) := x₂ _ _ (by simpa using hd.symm) (kg _ _ e1)
  refine s_cons (s_if (t_val (e_bool (t_bool ?_))))
  refine s_cons (s_for (nmL T₄ rfl (lp_src (Src.list w l []) R.handled (fun i g m => g = g₂) T₄ rfl (fun i g m z => z ▸ ⟨0, el2⟩) (fun i v I o g m h lt => absurd lt (Nat.not_lt_zero _)) fun g m h₅ T₅ e => s_nil (s_nil ?_))))
  subst e
  exact q h₅ l (fun a o na e => T₅.kp _ _ (x₂ _ _ na (kg _ _ e))) (none_of_ext (Ext.of T.kp []) (by simp) nl) (Hdr.kp ⟨ex2, ⟨t, ed2⟩, [], 0, el2, .nil⟩ T₅.kp)
theorem new_hdr {b : Heap} (Db : Wd w b) (kb : Kp b h) {k : Nat} (R : Room A (k + 4)) (q : ∀ x d l h', Kp h h' → h.get? x = none → h.get? d = none → h.get? l = none → Hdr w h' x d l [] → Q (.ref x) h') : Wp w r A (call (.ref 332) []) Q h := by
  have D := Db.kp kb
  refine Cd.call ⟨fun tk => ?_⟩
  refine make_core (prog := PW) (w := w) (h := h) (makes_of D.X (hdr_makes _)) (looks_findIn D.X (hdr_init _)) (fun self => bind_fn D.X self (by kernel_rfl)) (.inl rfl) ?_
  have n0 : h.get? h.objs.size = none := fresh_none fun _ _ e => e
  have n1 : h.get? (h.objs.size + 1) = none := by
    have : (h.push emptyDict).get? (h.push emptyDict).objs.size = none := fresh_none fun _ _ e => e
    rw [Heap.size_push] at this
    exact none_of_ext (Ext.of (kpush h emptyDict) []) (by simp) this
  have k2 : Kp h ((h.push emptyDict).push (instObj 332 h.objs.size)) := fun _ _ e => kpush _ _ _ _ (kpush _ _ _ _ e)
  have ed : ((h.push emptyDict).push (instObj 332 h.objs.size)).get? h.objs.size = some emptyDict := kpush _ _ _ _ (Heap.get?_push_size _ rfl)
  have ex : ((h.push emptyDict).push (instObj 332 h.objs.size)).get? (h.objs.size + 1) = some (instObj 332 h.objs.size) := by
    have := Heap.get?_push_size (h.push emptyDict) (o := instObj 332 h.objs.size) rfl
    rwa [Heap.size_push] at this
  refine (init_hdr (r := r) (Q := fun v h' => v = .none ∧ Q (.ref (h.objs.size + 1)) h') Db (fun _ _ e => k2 _ _ (kb _ _ e)) ex ed (Nat.ne_of_lt (Nat.lt_succ_self _)) (none_of_ext (Ext.of kb []) (by simp) n0) (k := k) (R.make 332 []) (fun h' l x nl B => ⟨rfl, q _ _ l h' (fun a o e => x _ _ (by
    intro z; rw [List.mem_singleton] at z; subst z; rw [n0] at e; cases e) (k2 _ _ e)) n1 n0 (none_of_ext (Ext.of k2 []) (by simp) nl) B⟩)).into (tk := tk) fun v h' tk' z => ?_
  obtain ⟨rfl, z⟩ := z
  exact ⟨rfl, h', tk', rfl, z⟩
end
end Mine
end
noncomputable section
open PySem PySem.W PySem.Spec PySem.Calls PyProof.Rows
set_option maxRecDepth 100000
namespace Mine
section
variable {w : World} {r : Rst} {A : Around} {h : Heap} {env : Env} {Q : Value → Heap → Prop}
theorem callFB {f : Addr} {o : Obj} {name qual : Str} {params : Arguments} {body : List Stmt} {scope : Scope} {cl : List (Str × Addr)} {dV kV doc pm cdv ct : Value} {an : Option Addr} {vals : List Value} {kw : List (Str × Value)} {k : Nat} {Bd : List (Str × Value) → Heap → Prop}
    (D : Wd w h) (R : Room A (k + 1)) (ho : (K0 w.params).lookup f = some o) (hd : o.data = .func (fnX name qual params body scope cl dV kV doc pm an cdv ct)) (hcd : codeIn (K0 w.params) cdv qual = true)
    (hbind : Wp w r A.in1 (bindArgs (fnX name qual params body scope cl dV kV doc pm an cdv ct) ⟨vals, kw⟩) (fun binds h₁ => Kp h h₁ ∧ Bd binds h₁) h) (hloc : ∀ binds h₁, Bd binds h₁ → (binds.all fun x => decide (scope.names.lookup x.1 = some .local)) = true)
    (p : ∀ L g binds h₁, Kp h g → Bd binds g → At g L [] h₁ (fun x => binds.reverse.lookup x) → Room (A.deeper (envX qual scope L f cdv cl)) k →
      Wp w r (A.deeper (envX qual scope L f cdv cl)) (execs body (envX qual scope L f cdv cl)) (fun fl h' => Q (match fl with | .ret v => v | _ => .none) h') h₁)
    (hcell : ∀ x ∈ scope.names, x.2 ≠ .cell) (hco : scope.isCoroutine = false) (hgen : scope.isGenerator = false) (hkf : scope.kind = .function) :
    Wp w r A (call (.ref f) vals kw) Q h := by
  refine ⟨fun E tk => wpAny_call (codeAny_call_function (s := stt r h tk) (fd := fnX name qual params body scope cl dV kV doc pm an cdv ct) (body := body) (Nat.lt_of_le_of_lt (Nat.le_add_right _ _) R.depth) (D.X _ _ ho) hd hco hgen rfl (codeRec_of D.X hcd) (hbind.into fun binds g tk₁ z => ?_))⟩
  obtain ⟨kg, bd⟩ := z
  refine wpAny_newFunctionEnv (s := stt r g tk₁) hcell (locs (hloc _ _ bd)) (fun h₀ hns₀ hsb₀ => ⟨(D.kp kg).lim.fresh _ hsb₀, codeAny_func ?_⟩) hkf
  have L0 : g.get? g.objs.size = none := fresh_none fun _ _ e => e
  have kk : Kp g h₀ := fun b o e => hsb₀.extBut b o (Nat.ne_of_lt (Heap.lt_size e)) (Heap.get?_push_of_some _ e)
  exact (p g.objs.size g binds h₀ kg bd ⟨hns₀, kk, L0, fun _ q => nomatch q⟩ (R.deeper _)).into fun fl h' tk' q => ⟨h', tk', rfl, q⟩
theorem addh_bind {P : Params} {self nm vl : Value} {fd : FuncData} (hfd : (o329 P).data = .func fd) : Wp w r A (bindArgs fd ⟨[self, nm, vl], []⟩) (fun binds h₁ => Kp h h₁ ∧ ∃ d, h.get? d = none ∧ h₁.get? d = some emptyDict ∧ binds = [(s243, self), (s490, nm), (s491, vl), (s492, .ref d)]) h := by
  injection hfd with hfd
  subst hfd
  refine ⟨fun E tk => ?_⟩
  unfold bindArgs
  repeat lk
  exact ⟨_, _, rfl, kpush _ _, _, fresh_none fun _ _ e => e, Heap.get?_push_size _ rfl, rfl⟩
theorem emptyAt {d : Addr} (e : h.get? d = some emptyDict) : h.DictAt (strKind PW w) d [] 0 := ⟨_, #[], e, ⟨rfl, rfl, rfl⟩, rfl, (by intro e he; simp at he), .nil, List.nodup_nil⟩
theorem c_items {d : Addr} (e : h.get? d = some emptyDict) (hd : (d == sysModules) = false) (q : ∀ v h', Kp h h' → h'.get? v = some { cls := .type "dict_items", data := .fields #[.ref d] } → Q (.ref v) h') : Wp w r A (call (.builtin "dict.items") [.ref d]) Q h := by
  refine c_slot F.slot_dict_items (fun tk => ⟨_, e, rfl⟩) F.entry_dict_items (F.args_dict_items_1 _) ?_
  refine ⟨fun E tk => ?_⟩
  unfold Builtin.«dict.items» Builtin.Dict.noArgs
  refine wpAny_bind (wpAny_bind (wpAny_notOrdered_dict (s := stt r h tk) ⟨_, e, rfl⟩ ?_))
  refine wpAny_pure ?_
  unfold Builtin.Dict.showsAll
  rw [if_neg (by rw [hd]; exact Bool.false_ne_true)]
  refine wpAny_bind (wpAny_pure ?_)
  exact wpAny_bind (wpAny_newObj_type (wpAny_pure ⟨_, tk, rfl, _, rfl, q _ _ (kpush _ _) (Heap.get?_push_size _ rfl)⟩))
theorem lp_items0 {d v : Addr} {target : Expr} {body : List Stmt} {Q : Flow → Heap → Prop} (hh : A.handled = none) (e : h.get? d = some emptyDict) (ev : h.get? v = some { cls := .type "dict_items", data := .fields #[.ref d] }) (q : ∀ h', Kp h h' → Q .next h') : Lp w r A target (.ref v) body [] env Q h := by
  refine ⟨fun E tk => wpAny_pyIter_items (s := stt r h tk) (knd := strKind PW w) ⟨_, ev, rfl, rfl⟩ (emptyAt e) ?_⟩
  refine codeAny_forLoop_any (fun k s => s = stt r (h.push { cls := .type "dict_itemiterator", data := .fields #[.none, .bool false, .ref d, .int 0 0, .int ([] : List (Str × Value)).length 0, .int (0 : Nat) 0, .none, .none] }) tk) ?_ 0 rfl
  rintro n s rfl
  refine wpAny_pyNext_items_end (knd := strKind PW w) (kvs := []) (i := 0) (ep := 0) (d := d) hh (Heap.get?_push_size _ rfl) (emptyAt (kpush _ _ _ _ e)) rfl fun h' x => ?_
  exact wpAny_execs_nil ⟨h', tk, rfl, q h' fun b o eb => x b o (Nat.ne_of_lt (Heap.lt_size eb)) (kpush _ _ _ _ eb)⟩
theorem m_append {l : Addr} {vs : List Value} {n : Nat} {pl : Sem Bool} {Q : Value × List Value → Heap → Prop} (e : h.get? l = some (listO vs n)) (q : Q (.builtin "list.append", [.ref l]) h) : Wp w r A (getMethod (.ref l) "append" pl) Q h := by
  have z : ∀ tk, Post r Q (.builtin "list.append", [.ref l]) (stt r h tk) := fun tk => ⟨h, tk, rfl, q⟩
  exact ⟨fun E tk => getMethod_list_append (s := stt r h tk) e rfl rfl (z tk)⟩
theorem c_append {l : Addr} {vs : List Value} {n : Nat} {v : Value} (e : h.get? l = some (listO vs n)) (hz : vs.length ≤ 1000) (q : ∀ h' n', Ext [l] h h' → h'.get? l = some (listO (vs ++ [v]) n') → Q .none h') : Wp w r A (call (.builtin "list.append") [.ref l, v]) Q h := by
  refine c_slot slot_list_append (fun tk => ⟨_, e, rfl⟩) entry_list_append (args_list_append _ _) ?_
  show Wp w r _ (updateSeq l (·.push v) >>= fun _ => ret .none) _ h
  refine .bind (u_seq e (fun h' n' x e' => .pure ⟨_, rfl, q h' n' x ?_⟩) (by simpa using hz) (by simpa using hz))
  rw [e']; simp
theorem c_join {x : Str} {t : Tok} {D : Addr} {l : List (Str × Tok)} {n : Nat} (e : h.get? D = some (listO (strValues l) n)) (hok : JoinOk x (l.map (·.1)) = true) (q : ∀ t', Q (.str (Txt.join x (l.map (·.1))) t') h) : Wp w r A (call (.builtin "str.join") [.str x t, .ref D]) Q h :=
  ⟨fun E tk => SC.join (s := stt r h tk) ⟨_, e, rfl, n, rfl⟩ rfl hok fun t' k => ⟨h, k, rfl, q t'⟩⟩
end
end Mine
end
noncomputable section
open PySem PySem.W PySem.Spec PySem.Calls PyProof.Rows
set_option maxRecDepth 100000
namespace Mine
section
variable {w : World} {r : Rst} {A : Around} {h : Heap} {env : Env} {Q : Value → Heap → Prop}
theorem m_items {d : Addr} {pl : Sem Bool} {Q : Value × List Value → Heap → Prop} (e : h.get? d = some emptyDict) (q : Q (.builtin "dict.items", [.ref d]) h) : Wp w r A (getMethod (.ref d) "items" pl) Q h := by
  have z : ∀ tk, Post r Q (.builtin "dict.items", [.ref d]) (stt r h tk) := fun tk => ⟨h, tk, rfl, q⟩
  exact ⟨fun E tk => getMethod_builtin (s := stt r h tk) ⟨_, e, rfl⟩ F.plainAttrs_dict F.slot_dict_items F.type_dict_items (fun a ea => by cases ea; exact ⟨_, e, rfl⟩) (z tk)⟩
theorem Hdr.ext {h h' : Heap} {x d l : Addr} {hs : List (Nat × Bool)} {W : List Addr} (B : Hdr w h x d l hs) (e : Ext W h h') (nx : x ∉ W) (nd : d ∉ W) (nl : l ∉ W) (n : ∀ a ∈ W, ∀ vs, h.get? a ≠ some (tupO vs)) : Hdr w h' x d l hs :=
  ⟨e _ _ nx B.obj, let ⟨t, z⟩ := B.dict; ⟨t, e _ _ nd z⟩, let ⟨Ts, k, z, p⟩ := B.lst; ⟨Ts, k, e _ _ nl z, Paired.imp (fun _ _ q => TupAt.ext q e n) p⟩⟩
theorem refs_inj : ∀ {a b : List Addr}, a.map Value.ref = b.map Value.ref → a = b
  | [], [], _ => rfl
  | [], _ :: _, e => by cases e
  | _ :: _, [], e => by cases e
  | x :: a, y :: b, e => by
    injection e with e1 e2
    injection e1 with e1
    rw [e1, refs_inj e2]
theorem look_sys (P : Params) : ∃ o, (K0 P).lookup sysModules = some o := ⟨_, rfl⟩
theorem ne_sys {b : Heap} (Db : Wd w b) {d : Addr} (n : b.get? d = none) : (d == sysModules) = false := by
  obtain ⟨o, e⟩ := look_sys w.params
  refine beq_eq_false_iff_ne.mpr ?_
  rintro rfl
  rw [Db.X _ _ e] at n; cases n
theorem join_sd (b : Bool) (x : Str) (hx : x = ⟨#[59, 32]⟩) : Txt.join x [sd b] = sd b ∧ JoinOk x [sd b] = true := by
  subst hx
  cases b <;> exact ⟨by kernel_rfl, by kernel_rfl⟩
theorem addh_ {b : Heap} (Db : Wd w b) (kb : Kp b h) {x d l : Addr} {hs : List (Nat × Bool)} (B : Hdr w h x d l hs) (nl : b.get? l = none) (hz : hs.length ≤ 500) {j : Nat} (hj : j < 8) {sb : Bool} {t t' : Tok} {k : Nat} (R : Room A (k + 6))
    (q : ∀ h' T Ts n', Ext [l] h h' → h.get? T = none → TupAt h' T (j, sb) → Paired (TupAt h) Ts hs → (∃ n, h.get? l = some (listO (Ts.map .ref) n)) → h'.get? l = some (listO ((Ts ++ [T]).map .ref) n') → Q .none h') : Wp w r A (call (.ref 329) [.ref x, .str (up j) t, .str (sd sb) t']) Q h := by
  have D := Db.kp kb
  refine callFB D R (o := o329 w.params) (by kernel_rfl) rfl (by kernel_rfl) (addh_bind (P := w.params) rfl) (fun binds h₁ ⟨_, _, _, e⟩ => by subst e; rfl) ?_ (by decide) rfl rfl rfl
  rintro L g binds h₁ kg ⟨dp, ndp, edp, rfl⟩ T R
  have kbg : Kp b g := fun a o e => kg _ _ (kb _ _ e)
  have Bg := B.kp kg
  refine s_cons (s_asg (e_list (a_nil (n_list fun a h₂ k₂ na e₂ => ?_))))
  obtain ⟨g₁, T₁, kg₁, ng₁⟩ := T.anew0 k₂
  have ea : g₁.get? a = some (listO []) := ng₁ _ _ na e₂
  have kb1 : Kp b g₁ := fun _ _ e => kg₁ _ _ (kbg _ _ e)
  have B1 := Bg.kp kg₁
  refine stL T₁ fun h₃ T₃ => ?_
  refine s_cons (s_if (t_cmp (nmL T₃ rfl ?_)))
  refine e_none (o_isNot rfl (t_bool ?_))
  obtain ⟨td, I⟩ := (B1.kp T₃.kp).inst
  refine s_cons (s_asg (c_meK fun pl => nmL T₃ rfl ?_))
  refine m_conv (Db.kp fun _ _ e => T₃.kp _ _ (kb1 _ _ e)) I rfl (w_kw (Db.kp kb1) (fun P => by kernel_rfl) (a_cons (nmL T₃ rfl ?_)))
  refine a_nil (k_cons (e_bool (k_nil ⟨T₃.kp, ?_⟩)))
  refine conv_ (Db.kp fun _ _ e => T₃.kp _ _ (kb1 _ _ e)) (nm := false) (ok_sd sb) (R.le (Nat.le_add_right _ 2)) (fun h₄ k₄ => stL (T₃.ext k₄) fun h₅ T₅ => ?_)
  refine s_cons (s_expr (c_me fun pl => nmL T₅ rfl ?_))
  refine m_append (T₅.kp _ _ ea) (w_bi (a_cons (nmL T₅ rfl ?_)))
  refine a_nil (c_append (T₅.kp _ _ ea) (by simp) fun h₆ n₆ x₆ e₆ => ?_)
  obtain ⟨g₂, T₆, xg₂, ng₂⟩ := T₅.anew x₆ (fun z hz => ⟨_, (List.mem_singleton.mp hz) ▸ ea⟩)
  have ea2 : g₂.get? a = some (listO [.str (sd sb) t'] n₆) := ng₂ _ _ (.inr (by simp)) e₆
  have nba : b.get? a = none := none_of_ext (Ext.of (fun _ _ e => T.kp _ _ (kbg _ _ e)) []) (by simp) na
  have kb2 : Kp b g₂ := kpx kb1 xg₂ (by simpa using nba)
  have D2 := Db.kp kb2
  have hax : a ≠ x := ne_of ea B1.obj (by simp)
  have had : a ≠ d := by obtain ⟨t, e⟩ := B1.dict; exact ne_of ea e (by simp)
  have hal : a ≠ l := by
    rintro rfl
    obtain ⟨Ts, n, e, _⟩ := Bg.lst
    rw [T.kp _ _ e] at na; cases na
  have B2 := B1.ext xg₂ (by simpa using hax.symm) (by simpa using had.symm) (by simpa using hal.symm) (fun z hz vs => by rw [List.mem_singleton.mp hz, ea]; simp)
  refine s_nil ?_
  have edp1 : g₁.get? dp = some emptyDict := kg₁ _ _ edp
  have hadp : a ≠ dp := ne_of ea edp1 (by simp)
  have edp2 : g₂.get? dp = some emptyDict := xg₂ _ _ (by simpa using hadp.symm) edp1
  refine s_cons (s_for (c_me fun pl => nmL T₆ rfl ?_))
  refine m_items (T₆.kp _ _ edp2) (w_bi0 (c_items (T₆.kp _ _ edp2) (ne_sys Db (none_of_ext (Ext.of kb []) (by simp) ndp)) fun v h₇ k₇ e₇ => ?_))
  refine lp_items0 R.handled (k₇ _ _ (T₆.kp _ _ edp2)) e₇ fun h₈ k₈ => ?_
  have T₈ := T₆.ext (fun _ _ e => k₈ _ _ (k₇ _ _ e))
  refine s_cons (s_expr (c_me fun pl => e_attr (nmL T₈ rfl ?_)))
  refine get_hdrs (D2.kp T₈.kp) (B2.kp T₈.kp) ?_
  obtain ⟨Ts, n, eL, pr⟩ := B2.lst
  refine m_append (T₈.kp _ _ eL) (w_bi (a_cons (e_tup (a_cons (c_meK fun pl => nmL T₈ rfl ?_)))))
  obtain ⟨td2, I2⟩ := (B2.kp T₈.kp).inst
  refine m_conv (D2.kp T₈.kp) I2 rfl (w_kw D2 (fun P => by kernel_rfl) (a_cons (nmL T₈ rfl ?_)))
  refine a_nil (k_cons (e_bool (k_nil ⟨T₈.kp, ?_⟩)))
  refine conv_ (D2.kp T₈.kp) (nm := true) (ok_up j hj) (R.le (Nat.le_add_right _ 2)) (fun h₉ k₉ => ?_)
  have T₉ := T₈.ext k₉
  refine a_cons (c_me fun pl => e_str fun t₉ => ?_)
  obtain ⟨js, jo⟩ := join_sd sb ⟨#[59, 32]⟩ rfl
  refine g_join (w_bi (a_cons (nmL T₉ rfl ?_)))
  refine a_nil (c_join (l := [(sd sb, t')]) (n := n₆) (T₉.kp _ _ ea2) jo fun t₁₀ => ?_)
  rw [show Txt.join ⟨#[59, 32]⟩ ([(sd sb, t')].map (·.1)) = sd sb from js]
  refine a_nil (n_tup fun T₀ h₁₀ k₁₀ nT eT => a_nil ?_)
  refine c_append (k₁₀ _ _ (T₉.kp _ _ eL)) (by rw [List.length_map, Paired.length pr]; omega) fun h₁₁ n' x₁₁ e₁₁ => s_nil ?_
  have kg2 : Ext [a] h g₂ := fun z o nz e => xg₂ _ _ nz (kg₁ _ _ (kg _ _ e))
  have ga : h.get? a = none := none_of_ext (Ext.of (fun _ _ e => T.kp _ _ (kg _ _ e)) []) (by simp) na
  have kfin : Kp h g₂ := fun z o e => kg2 z o (by rintro q; rw [List.mem_singleton] at q; subst q; rw [ga] at e; cases e) e
  have k10 : Kp g₂ h₁₀ := fun _ _ e => k₁₀ _ _ (T₉.kp _ _ e)
  have B10 := B2.kp k10
  have nT2 : g₂.get? T₀ = none := none_of_ext (Ext.of T₉.kp []) (by simp) nT
  have hTl : T₀ ≠ l := by rintro rfl; rw [eL] at nT2; cases nT2
  have nT0 : h.get? T₀ = none := none_of_ext (Ext.of kfin []) (by simp) nT2
  obtain ⟨Ts₀, n₀, eL₀, pr₀⟩ := B.lst
  have eT2 : Ts₀ = Ts := by
    have e3 := kfin _ _ eL₀
    rw [eL] at e3
    injection e3 with e3; injection e3 with _ _ e3 _; injection e3 with e3 _
    have e4 : Ts.map Value.ref = Ts₀.map Value.ref := by simpa using e3
    exact refs_inj e4.symm
  subst eT2
  exact q h₁₁ T₀ Ts₀ n' (fun z o nz e => x₁₁ _ _ nz (k10 _ _ (kfin _ _ e))) nT0 ⟨t, t₁₀, x₁₁ _ _ (by simpa using hTl) eT⟩ pr₀ ⟨_, eL₀⟩ (by rw [e₁₁]; simp)
end
end Mine
end
noncomputable section
namespace Mine
theorem cj2 {a b P : Prop} (x : a ∧ b) (k : a → b → P) : P := k x.1 x.2
theorem cj3 {a b c P : Prop} (x : a ∧ b ∧ c) (k : a → b → c → P) : P := k x.1 x.2.1 x.2.2
theorem cj4 {a b c d P : Prop} (x : a ∧ b ∧ c ∧ d) (k : a → b → c → d → P) : P := k x.1 x.2.1 x.2.2.1 x.2.2.2
theorem cj5 {a b c d e P : Prop} (x : a ∧ b ∧ c ∧ d ∧ e) (k : a → b → c → d → e → P) : P := k x.1 x.2.1 x.2.2.1 x.2.2.2.1 x.2.2.2.2
theorem cj6 {a b c d e f P : Prop} (x : a ∧ b ∧ c ∧ d ∧ e ∧ f) (k : a → b → c → d → e → f → P) : P := k x.1 x.2.1 x.2.2.1 x.2.2.2.1 x.2.2.2.2.1 x.2.2.2.2.2
theorem cj7 {a b c d e f g P : Prop} (x : a ∧ b ∧ c ∧ d ∧ e ∧ f ∧ g) (k : a → b → c → d → e → f → g → P) : P := cj6 x fun a b c d e y => cj2 y fun f g => k a b c d e f g
theorem cj8 {a b c d e f g i P : Prop} (x : a ∧ b ∧ c ∧ d ∧ e ∧ f ∧ g ∧ i) (k : a → b → c → d → e → f → g → i → P) : P := cj6 x fun a b c d e y => cj3 y fun f g i => k a b c d e f g i
theorem cj9 {a b c d e f g i j P : Prop} (x : a ∧ b ∧ c ∧ d ∧ e ∧ f ∧ g ∧ i ∧ j) (k : a → b → c → d → e → f → g → i → j → P) : P := cj6 x fun a b c d e y => cj4 y fun f g i j => k a b c d e f g i j
theorem cj10 {a b c d e f g i j l P : Prop} (x : a ∧ b ∧ c ∧ d ∧ e ∧ f ∧ g ∧ i ∧ j ∧ l) (k : a → b → c → d → e → f → g → i → j → l → P) : P := cj6 x fun a b c d e y => cj5 y fun f g i j l => k a b c d e f g i j l
theorem cj11 {a b c d e f g i j l m P : Prop} (x : a ∧ b ∧ c ∧ d ∧ e ∧ f ∧ g ∧ i ∧ j ∧ l ∧ m) (k : a → b → c → d → e → f → g → i → j → l → m → P) : P := cj6 x fun a b c d e y => cj6 y fun f g i j l m => k a b c d e f g i j l m
theorem xj1 {α : Type} {p : α → Prop} {P : Prop} (x : ∃ a, p a) (k : ∀ a, p a → P) : P := x.elim k
theorem xj2 {α β : Type} {p : α → β → Prop} {P : Prop} (x : ∃ a b, p a b) (k : ∀ a b, p a b → P) : P := x.elim fun a y => y.elim fun b z => k a b z
theorem xj3 {α β γ : Type} {p : α → β → γ → Prop} {P : Prop} (x : ∃ a b c, p a b c) (k : ∀ a b c, p a b c → P) : P := x.elim fun a y => xj2 y fun b c z => k a b c z
theorem xj4 {α β γ δ : Type} {p : α → β → γ → δ → Prop} {P : Prop} (x : ∃ a b c d, p a b c d) (k : ∀ a b c d, p a b c d → P) : P := x.elim fun a y => xj3 y fun b c d z => k a b c d z
theorem xj5 {α β γ δ ε : Type} {p : α → β → γ → δ → ε → Prop} {P : Prop} (x : ∃ a b c d e, p a b c d e) (k : ∀ a b c d e, p a b c d e → P) : P := xj2 x fun a b y => xj3 y fun c d e z => k a b c d e z
theorem xj6 {α β γ δ ε ζ : Type} {p : α → β → γ → δ → ε → ζ → Prop} {P : Prop} (x : ∃ a b c d e f, p a b c d e f) (k : ∀ a b c d e f, p a b c d e f → P) : P := xj3 x fun a b c y => xj3 y fun d e f z => k a b c d e f z
theorem xcj3 {α : Type} {p q r : α → Prop} {P : Prop} (x : ∃ a, p a ∧ q a ∧ r a) (k : ∀ a, p a → q a → r a → P) : P := x.elim fun a z => k a z.1 z.2.1 z.2.2
end Mine
end
noncomputable section
open PySem PySem.W PySem.Spec PySem.Calls PyProof.Rows
set_option maxRecDepth 100000
namespace Mine
theorem At.pins {g h : Heap} {L : Addr} {P P' : List (Addr × Obj)} {m : Str → Option Value} (T : At g L P h m) (s : ∀ p ∈ P', p ∈ P) : At g L P' h m := ⟨T.ns, T.kp, T.out, fun p hp => T.pin p (s p hp)⟩
theorem At.all {g h : Heap} {L : Addr} {P : List (Addr × Obj)} {m : Str → Option Value} (T : At g L P h m) :
    ∃ g', At g' L P h m ∧ Kp g g' ∧ ∀ a o, a ≠ L → (∀ p ∈ P, p.1 ≠ a) → h.get? a = some o → g'.get? a = some o := by
  refine ⟨hideAll h (L :: P.map (·.1)), ⟨T.ns, fun b o e => of_hideAll _ e, hideAll_none _ (.head _), fun p hp => ⟨(T.pin p hp).1, (T.pin p hp).2.1, hideAll_none _ (.tail _ (List.mem_map_of_mem hp))⟩⟩, fun b o e => hideAll_get _ (T.kp b o e) fun q => ?_, fun a o n1 n2 e => hideAll_get _ e fun q => ?_⟩
  · rcases List.mem_cons.mp q with q | q
    · subst q; rw [T.out] at e; cases e
    · obtain ⟨p, hp, rfl⟩ := List.mem_map.mp q
      rw [(T.pin p hp).2.2] at e; cases e
  · rcases List.mem_cons.mp q with q | q
    · exact n1 q
    · obtain ⟨p, hp, rfl⟩ := List.mem_map.mp q
      exact n2 p hp rfl
abbrev testsOf (ifs : List Expr) (env : Env) : Sem Bool := forIn ifs true fun c r => if r = true then do let ok ← isTrue c env (eval c env); Pure.pure (ForInStep.yield ok) else Pure.pure (ForInStep.yield r)
section
variable {prog : Program} {w : World} {r : Rst} {A : Around} {h : Heap} {env : Env} {R : Result → Shared → Prop} {s : Shared}
theorem comp_code {elt target iter : Expr} {ifs : List Expr} {scope : Scope} {pos : Pos} {it acc : Value} (I : Nat → Shared → Prop)
    (turn : ∀ n s, I n s → wpAny (model prog w) A (pyNext it) (fun r s₁ => match r with
      | none => R (.ok .next) s₁
      | some v => wpAny (model prog w) A (letOwnedTupleGo target it v) (fun _ s₁' => wpAny (model prog w) A (assign target env v) (fun _ s₂ =>
          wpAny (model prog w) A (testsOf ifs env) (fun ok s₃ =>
            if ok = true then wpAny (model prog w) A (eval elt env) (fun x s₄ =>
              wpAny (model prog w) A (call (.builtin "list.append") [acc, x]) (fun _ s₅ => ∃ m, m < n ∧ I m s₅) (notedBy (model prog w) A env fun e s' => R (.error e) s') s₄) (notedBy (model prog w) A env fun e s' => R (.error e) s') s₃
            else ∃ m, m < n ∧ I m s₃) (notedBy (model prog w) A env fun e s' => R (.error e) s') s₂) (notedBy (model prog w) A env fun e s' => R (.error e) s') s₁') (notedBy (model prog w) A env fun e s' => R (.error e) s') s₁) (notedBy (model prog w) A env fun e s' => R (.error e) s') s)
    (n : Nat) (h : I n s) : codeAny (model prog w) A (.compLoop (.ListComp elt [⟨target, iter, ifs, 0⟩] scope pos) 0 it acc env) R s := by
  refine codeAny_loop rfl I (fun n s hI => ?_) n h
  show wpAny _ A ((compTurn (.ListComp elt [⟨target, iter, ifs, 0⟩] scope pos) 0 it acc env).onRaise (fun x => do noteFrame x env; theTreesLotGoes x)) _ _ s
  refine wpAny_noted ?_
  rw [compTurn_list]
  refine wpAny_bind (wpAny_standAt (wpAny_bind (wpAny_mono (turn n s hI) (fun r s₁ h₁ => ?_) fun _ _ h' => h')))
  cases r with
  | none => exact wpAny_pure h₁
  | some v =>
    refine wpAny_bind (wpAny_mono h₁ (fun _ s₁' h₁' => wpAny_bind (wpAny_mono h₁' (fun _ s₂ h₂ => wpAny_bind (wpAny_mono h₂ (fun ok s₃ h₃ => ?_) fun _ _ h' => h')) fun _ _ h' => h')) fun _ _ h' => h')
    cases ok with
    | false => exact wpAny_pure ⟨rfl, h₃⟩
    | true => exact wpAny_bind (wpAny_bind (wpAny_mono h₃ (fun x s₄ h₄ => wpAny_bind (wpAny_mono h₄ (fun _ s₅ h₅ => wpAny_pure (wpAny_pure ⟨rfl, h₅⟩)) fun _ _ h' => h')) fun _ _ h' => h'))
theorem ts_nil {Q : Bool → Heap → Prop} (q : Q true h) : Wp w r A (testsOf [] env) Q h := ⟨fun _ tk => wpAny_pure ⟨h, tk, rfl, q⟩⟩
theorem ts_one {c : Expr} {Q : Bool → Heap → Prop} (p : Wp w r A (isTrue c env (eval c env)) Q h) : Wp w r A (testsOf [c] env) Q h := ⟨fun E tk => wpAny_tests_one (p.run E tk)⟩
structure CompTurn (w : World) (r : Rst) (A : Around) (elt target : Expr) (ifs : List Expr) (scope : Scope) (cl : List (Str × Addr)) (env : Env) (n : Nat) (Pv : Nat → Value → Prop) (In : Heap → Prop) (L : Addr) (P : List (Addr × Obj))
    (J : Nat → List Value → Heap → Prop) (g : Heap) : Prop where
  start : J 0 [] g
  has : ∀ i ys g, J i ys g → In g
  keep : ∀ i ys g g', J i ys g → Kp g g' → J i ys g'
  turn : ∀ i v C I o D nD oL ys g h mc, i < n → ys.length ≤ i → Pv i v → At g C ((I, o) :: (D, listO ys nD) :: (L, oL) :: P) h mc → J i ys g →
    Wp w r A (assign target (compEnvC scope cl C env) v) (fun _ h₂ => Wp w r A (testsOf ifs (compEnvC scope cl C env)) (fun ok h₃ =>
      if ok = true then Wp w r A (eval elt (compEnvC scope cl C env)) (fun y h₄ => ∃ g' mc', At g' C ((I, o) :: (D, listO ys nD) :: (L, oL) :: P) h₄ mc' ∧ J (i + 1) (ys ++ [y]) g') h₃
      else ∃ g' mc', At g' C ((I, o) :: (D, listO ys nD) :: (L, oL) :: P) h₃ mc' ∧ J (i + 1) ys g') h₂) h
theorem comp_core {elt target iter : Expr} {ifs : List Expr} {scope : Scope} {cl : List (Str × Addr)} {pos : Pos} {n : Nat} {Pv : Nat → Value → Prop} {It : Nat → Obj → Prop} {In : Heap → Prop} {L : Addr} {P : List (Addr × Obj)} {m : Str → Option Value} {xv : Value} {h₁ g : Heap} {tk₁ : Nat} {E : Value → Shared → Prop} {RR : Value → Addr → Result → Shared → Prop}
    (S : Src w xv n Pv It In) (hz : n ≤ 1000) (hh : A.handled = none) (J : Nat → List Value → Heap → Prop) (T : At g L P h₁ m) (ok : CompTurn w r A elt target ifs scope cl env n Pv In L P J g)
    (hcell : ∀ y ∈ scope.names, y.2 ≠ .cell) (hkind : scope.kind = .function)
    (hRR : ∀ D C nD oL ys g h tk mc, At g C ((D, listO ys nD) :: (L, oL) :: P) h mc → (∀ h' : Heap, h'.get? L = some oL → h'.Ns L m) → D ≠ C → L ≠ C → L ≠ D → (∀ p ∈ P, p.1 ≠ C ∧ p.1 ≠ D ∧ p.1 ≠ L) → J n ys g → RR (.ref D) C (.ok .next) (stt r h tk)) :
    wpAny (Md w) A (pyIter xv) (fun it s₂ => wpAny (Md w) A (newList []) (fun acc s₃ => wpAny (Md w) A (newFunctionEnv scope env.globals cl [] env.qual none .none (some env)) (fun cenv s₄ =>
      codeAny (Md w) A (.compStart (.ListComp elt [⟨target, iter, ifs, 0⟩] scope pos) 0 it acc { cenv with scope := relabel scope env }) (RR acc cenv.locals) s₄) E s₃) E s₂) E (stt r h₁ tk₁) := by
  refine (S.iter r A h₁ (fun v h' => ∃ I o, v = .ref I ∧ Kp h₁ h' ∧ h₁.get? I = none ∧ h'.get? I = some o ∧ It 0 o) (S.keep _ _ (ok.has _ _ _ ok.start) T.kp) (fun I h' o k nI e it => ⟨I, o, rfl, k, nI, e, it⟩)).into fun v h₂ tk₂ z => ?_
  obtain ⟨I, o, rfl, k₂, nI, eI, it⟩ := z
  refine wpAny_newObj_type (s := stt r h₂ tk₂) ?_
  refine wpAny_newFunctionEnv (s := stt r (h₂.push { cls := .type "list", data := .seq ([] : List Value).toArray }) tk₂) hcell (by intro y hy; simp at hy) (fun h₃ hns hsb => ?_) hkind
  generalize hD : (stt r h₂ tk₂).heap.objs.size = D
  have eD₀ : (h₂.push { cls := .type "list", data := .seq ([] : List Value).toArray }).get? D = some (listO []) := by rw [← hD]; exact Heap.get?_push_size _ rfl
  have nD : h₂.get? D = none := by rw [← hD]; exact fresh_none fun _ _ e => e
  have kD : Kp h₂ (h₂.push { cls := .type "list", data := .seq ([] : List Value).toArray }) := kpush _ _
  generalize (h₂.push { cls := .type "list", data := .seq ([] : List Value).toArray }) = hD' at *
  generalize hC : (stt r hD' tk₂).heap.objs.size = C at *
  have nC : hD'.get? C = none := by rw [← hC]; exact fresh_none fun _ _ e => e
  have kC : Kp hD' h₃ := fun b o e => hsb.extBut b o (by rintro rfl; rw [nC] at e; cases e) (Heap.get?_push_of_some _ e)
  have T3 := T.ext fun _ _ e => kC _ _ (kD _ _ (k₂ _ _ e))
  obtain ⟨oL, a1, a2, hL, a3⟩ := T3.ns
  have nCg : g.get? C = none := none_of_ext (Ext.of (fun _ _ e => kD _ _ (k₂ _ _ (T.kp _ _ e))) []) (by simp) nC
  have hIC : I ≠ C := by rintro rfl; rw [kD _ _ eI] at nC; cases nC
  have hDC : D ≠ C := by rintro rfl; rw [eD₀] at nC; cases nC
  have hLC : L ≠ C := by
    rintro rfl
    obtain ⟨o', _, _, e, _⟩ := T.ns
    rw [kD _ _ (k₂ _ _ e)] at nC; cases nC
  have hID : I ≠ D := by rintro rfl; rw [eI] at nD; cases nD
  have hLD : L ≠ D := by
    rintro rfl
    obtain ⟨o', _, _, e, _⟩ := T.ns
    rw [k₂ _ _ e] at nD; cases nD
  have hLI : L ≠ I := by
    rintro rfl
    obtain ⟨o', _, _, e, _⟩ := T.ns
    rw [e] at nI; cases nI
  have pI : ∀ p ∈ P, p.1 ≠ I := fun p hp q => by have := (T.pin p hp).1; rw [q, nI] at this; cases this
  have pD : ∀ p ∈ P, p.1 ≠ D := fun p hp q => by have := k₂ _ _ (T.pin p hp).1; rw [q, nD] at this; cases this
  have pC : ∀ p ∈ P, p.1 ≠ C := fun p hp q => by have := kD _ _ (k₂ _ _ (T.pin p hp).1); rw [q, nC] at this; cases this
  have gI : g.get? I = none := none_of_ext (Ext.of T.kp []) (by simp) nI
  have gD : g.get? D = none := none_of_ext (Ext.of (fun _ _ e => k₂ _ _ (T.kp _ _ e)) []) (by simp) nD
  have start : At g C ((I, o) :: (D, listO []) :: (L, oL) :: P) h₃ (fun x => ([] : List (Str × Value)).reverse.lookup x) := by
    refine ⟨hns, T3.kp, nCg, fun p hp => ?_⟩
    rcases List.mem_cons.mp hp with rfl | hp
    · exact ⟨kC _ _ (kD _ _ eI), hIC, gI⟩
    · rcases List.mem_cons.mp hp with rfl | hp
      · exact ⟨kC _ _ eD₀, hDC, gD⟩
      · rcases List.mem_cons.mp hp with rfl | hp
        · exact ⟨hL, hLC, T.out⟩
        · exact ⟨(T3.pin p hp).1, pC p hp, (T3.pin p hp).2.2⟩
  have loop : ∀ tk, codeAny (Md w) A (.compLoop (.ListComp elt [⟨target, iter, ifs, 0⟩] scope pos) 0 (.ref I) (.ref D) (compEnvC scope cl C env)) (RR (.ref D) C) (stt r h₃ tk) := by
    intro tk
    refine comp_code (prog := PW) (fun k s => ∃ i h tk g mc o ys nD, s = stt r h tk ∧ i ≤ n ∧ ys.length ≤ i ∧ k = n + 1 - i ∧ It i o ∧ At g C ((I, o) :: (D, listO ys nD) :: (L, oL) :: P) h mc ∧ J i ys g) ?_ (n + 1)
      ⟨0, h₃, tk, g, _, o, [], 0, rfl, Nat.zero_le _, Nat.le_refl _, rfl, it, start, ok.start⟩
    rintro k s zz; refine xj4 zz fun i h tk g zz0 => ?_; clear zz; refine xj4 zz0 fun mc o ys kD zz1 => ?_; clear zz0; refine cj7 zz1 fun e1 hi hys e2 it T j => ?_; clear zz1; subst e1; subst e2
    have eI := (T.pin (I, o) (.head _)).1
    have pI' : ∀ p ∈ (D, listO ys kD) :: (L, oL) :: P, p.1 ≠ I := fun p hp => by
      rcases List.mem_cons.mp hp with rfl | hp
      · exact hID.symm
      · rcases List.mem_cons.mp hp with rfl | hp
        · exact hLI
        · exact pI p hp
    rcases Nat.lt_or_ge i n with lt | ge
    · refine (S.item r A h I o i (fun v h' => ∃ u o', v = some u ∧ Pv i u ∧ Ext [I] h h' ∧ h'.get? I = some o' ∧ It (i + 1) o') (S.keep _ _ (ok.has _ _ _ j) T.kp) eI it lt (fun v h' o' pv x' e' it' => ⟨v, o', rfl, pv, x', e', it'⟩)).into fun v h₂ tk₂ z => ?_
      obtain ⟨u, o', rfl, pv, x', e', it'⟩ := z
      have T2 := T.pinUpd pI' x' e'
      refine (S.owned r A h₂ I o' (i + 1) target u (fun _ h' => h' = h₂) e' it' rfl).into fun _ h₃ tk₃ z => ?_
      subst z
      refine (ok.turn i u C I o' D kD oL ys g _ mc lt hys pv T2 j).into fun _ h₄ tk₄ z => z.into fun b h₅ tk₅ z => ?_
      cases b with
      | false =>
        obtain ⟨g', mc', T', j'⟩ := z
        exact ⟨n + 1 - (i + 1), by omega, i + 1, h₅, tk₅, g', mc', o', ys, kD, rfl, lt, by omega, rfl, it', T', j'⟩
      | true =>
        refine Wp.into z fun y h₆ tk₆ z => ?_
        obtain ⟨g', mc', T', j'⟩ := z
        refine (c_append (r := r) (A := A) (v := y) (Q := fun _ h' => ∃ n', Ext [D] h₆ h' ∧ h'.get? D = some (listO (ys ++ [y]) n')) (T'.pin (D, listO ys kD) (.tail _ (.head _))).1 (by omega) (fun h' n' x e => ⟨n', x, e⟩)).into fun _ h₇ tk₇ z => ?_
        obtain ⟨n', x₇, e₇⟩ := z
        have T7 : At g' C ((I, o') :: (D, listO (ys ++ [y]) n') :: (L, oL) :: P) h₇ mc' := by
          have T8 : At g' C ((D, listO ys kD) :: (I, o') :: (L, oL) :: P) h₆ mc' := T'.pins (by intro p hp; simp only [List.mem_cons] at hp ⊢; rcases hp with h | h | h | h <;> simp [h])
          have T9 := T8.pinUpd (o' := listO (ys ++ [y]) n') (fun p hp => by
            rcases List.mem_cons.mp hp with rfl | hp
            · exact hID
            · rcases List.mem_cons.mp hp with rfl | hp
              · exact hLD
              · exact pD p hp) x₇ e₇
          exact T9.pins (by intro p hp; simp only [List.mem_cons] at hp ⊢; rcases hp with h | h | h | h <;> simp [h])
        exact ⟨n + 1 - (i + 1), by omega, i + 1, h₇, tk₇, g', mc', o', ys ++ [y], n', rfl, lt, by rw [List.length_append, List.length_singleton]; omega, rfl, it', T7, j'⟩
    · have en : i = n := Nat.le_antisymm hi ge
      subst en
      refine (S.done r A h I o (fun v h' => v = none ∧ Ext [I] h h') hh (S.keep _ _ (ok.has _ _ _ j) T.kp) eI it (fun h' x' => ⟨rfl, x'⟩)).into fun v h₂ tk₂ z => ?_
      obtain ⟨rfl, x'⟩ := z
      have T2 := T.unpinUpd pI' x'
      exact hRR D C kD oL ys g _ tk₂ mc T2 (fun h' e => ⟨oL, a1, a2, e, a3⟩) hDC hLC hLD (fun p hp => ⟨pC p hp, pD p hp, (T3.pin p hp).2.1⟩) j
  exact codeAny_compStart_list (loop _) ((S.self r A h₃ I o 0 (fun v h' => v = .ref I ∧ h' = h₃) hh (kC _ _ (kD _ _ eI)) it ⟨rfl, rfl⟩).into fun v h' tk' z => by
    obtain ⟨rfl, rfl⟩ := z
    exact loop _)
structure CompOk (w : World) (r : Rst) (A : Around) (elt target : Expr) (ifs : List Expr) (scope : Scope) (cl : List (Str × Addr)) (env : Env) (n : Nat) (Pv : Nat → Value → Prop) (In : Heap → Prop) (L : Addr) (P : List (Addr × Obj)) (m : Str → Option Value)
    (Q : Value → Heap → Prop) (J : Nat → List Value → Heap → Prop) (g : Heap) : Prop where
  start : J 0 [] g
  has : ∀ i ys g, J i ys g → In g
  keep : ∀ i ys g g', J i ys g → Kp g g' → J i ys g'
  turn : ∀ i v C I o D nD oL ys g h mc, i < n → ys.length ≤ i → Pv i v → At g C ((I, o) :: (D, listO ys nD) :: (L, oL) :: P) h mc → J i ys g →
    Wp w r A (assign target (compEnvC scope cl C env) v) (fun _ h₂ => Wp w r A (testsOf ifs (compEnvC scope cl C env)) (fun ok h₃ =>
      if ok = true then Wp w r A (eval elt (compEnvC scope cl C env)) (fun y h₄ => ∃ g' mc', At g' C ((I, o) :: (D, listO ys nD) :: (L, oL) :: P) h₄ mc' ∧ J (i + 1) (ys ++ [y]) g') h₃
      else ∃ g' mc', At g' C ((I, o) :: (D, listO ys nD) :: (L, oL) :: P) h₃ mc' ∧ J (i + 1) ys g') h₂) h
  fin : ∀ D nD ys g h, At g L P h m → J n ys g → g.get? D = some (listO ys nD) → Q (.ref D) h
theorem e_compX {elt target iter : Expr} {ifs : List Expr} {scope : Scope} {cl : List (Str × Addr)} {pos : Pos} {L : Addr} {P : List (Addr × Obj)} {m : Str → Option Value} {Q : Value → Heap → Prop}
    (hh : A.handled = none)
    (p : Wp w r A (eval iter env) (fun xv h₁ => ∃ (n : Nat) (Pv : Nat → Value → Prop) (It : Nat → Obj → Prop) (In : Heap → Prop) (J : Nat → List Value → Heap → Prop), n ≤ 1000 ∧ Src w xv n Pv It In ∧ ∃ g, At g L P h₁ m ∧ CompOk w r A elt target ifs scope cl env n Pv In L P m Q J g) h)
    (hclos : closureFor scope env = Pure.pure cl) (hcell : ∀ y ∈ scope.names, y.2 ≠ .cell) (hkind : scope.kind = .function) (hnames : ∀ y ∈ scope.names, y.2 = .local → scope.names.lookup y.1 = some .local)
    (hs : ∀ x, foldedSetIterable iter env x = Pure.pure x := by intro _; rfl) : Wp w r A (eval (.ListComp elt [⟨target, iter, ifs, 0⟩] scope pos) env) Q h := by
  refine ⟨fun E tk => ?_⟩
  rw [eval_ListComp]
  refine wpAny_comprehension_free (use := none) rfl hs hclos hkind hnames (p.into fun xv h₁ tk₁ z => ?_)
  obtain ⟨n, Pv, It, In, J, hz, S, g, T, ok⟩ := z
  refine comp_core S hz hh J T ⟨ok.start, ok.has, ok.keep, ok.turn⟩ hcell hkind fun D C kD oL ys g h₂ tk₂ mc T2 nsL hDC hLC hLD hP j => ⟨mc, T2.ns, fun h' hs' => ⟨h', tk₂, rfl, ?_⟩⟩
  have sb := hs'.2
  have TL : At g L P h' m := by
    refine ⟨nsL _ ((sb _ hLC).trans (T2.pin (L, oL) (.tail _ (.head _))).1), fun b o e => (sb _ (T2.ne e)).trans (T2.kp _ _ e), (T2.pin (L, oL) (.tail _ (.head _))).2.2, fun p hp => ⟨(sb _ (hP p hp).1).trans (T2.pin p (.tail _ (.tail _ hp))).1, (hP p hp).2.2, (T2.pin p (.tail _ (.tail _ hp))).2.2⟩⟩
  obtain ⟨g', T', kg, all⟩ := TL.all
  exact ok.fin D kD ys g' h' T' (ok.keep _ _ _ _ j kg) (all _ _ hLD.symm (fun p hp => (hP p hp).2.1) ((sb _ hDC).trans (T2.pin (D, listO ys kD) (.head _)).1))
theorem s_asgComp {elt target iter : Expr} {ifs : List Expr} {scope : Scope} {cl : List (Str × Addr)} {y : Str} {py pos spos : Pos} {L : Addr} {P : List (Addr × Obj)} {m : Str → Option Value} {Q : Flow → Heap → Prop}
    (hh : A.handled = none)
    (p : Wp w r A (eval iter env) (fun xv h₁ => ∃ (n : Nat) (Pv : Nat → Value → Prop) (It : Nat → Obj → Prop) (In : Heap → Prop) (J : Nat → List Value → Heap → Prop), n ≤ 1000 ∧ Src w xv n Pv It In ∧ ∃ g, At g L P h₁ m ∧ CompTurn w r A elt target ifs scope cl env n Pv In L P J g ∧
      ∀ D nD ys g h, At g L P h (fun z => if z = y then some (.ref D) else m z) → J n ys g → g.get? D = some (listO ys nD) → Q .next h) h)
    (hclos : closureFor scope env = Pure.pure cl) (hcell : ∀ y ∈ scope.names, y.2 ≠ .cell) (hkind : scope.kind = .function) (hnames : ∀ y ∈ scope.names, y.2 = .local → scope.names.lookup y.1 = some .local)
    (hL : env.locals = L := by rfl) (hk : env.scope.kind = .function := by rfl) (hy : env.kindOf y = some .local := by rfl)
    (hsw : swapsWith (.ListComp elt [⟨target, iter, ifs, 0⟩] scope pos) (some (.Name y py)) spos.line env = Pure.pure true := by rfl)
    (hs : ∀ x, foldedSetIterable iter env x = Pure.pure x := by intro _; rfl) : Wp w r A (exec (.Assign [.Name y py] (.ListComp elt [⟨target, iter, ifs, 0⟩] scope pos) spos) env) Q h := by
  subst hL
  refine ⟨fun E tk => ?_⟩
  rw [exec_Assign_Name_used _ _ _ _ hsw]
  refine wpAny_bind (wpAny_standAt (wpAny_bind ?_))
  show wpAny _ A (do let _ ← comprehension (.ListComp elt [⟨target, iter, ifs, 0⟩] scope pos) scope env _ (newList []) false (eval iter env) (some (assign (.Name y py) env))) _ _ _
  refine wpAny_bind (wpAny_mono (wpAny_comprehension_free (use := some (assign (.Name y py) env)) (Q := fun _ s' => Post r Q .next s') rfl hs hclos hkind hnames
    (p.into fun xv h₁ tk₁ z => ?_)) (fun _ s' hq => wpAny_pure (wpAny_pure hq)) fun _ _ e => e)
  obtain ⟨n, Pv, It, In, J, hz, S, g, T, ok, fin⟩ := z
  refine comp_core S hz hh J T ok hcell hkind fun D C kD oL ys g h₂ tk₂ mc T2 nsL hDC hLC hLD hP j => ?_
  show wpAny _ A (assign (.Name y py) env (.ref D)) _ _ _
  refine wpAny_assign_Name (wpAny_storeName_local hy (nsL _ (T2.pin (env.locals, oL) (.tail _ (.head _))).1) (fun h₃ hn₃ hs₃ => ?_) (by rw [hk]; rfl))
  refine ⟨mc, T2.ns.sameBut hs₃ (Ne.symm hLC), fun h' hs' => ⟨h', _, rfl, ?_⟩⟩
  have sb := hs'.2
  have sb3 := hs₃.2
  have TL : At g env.locals P h' (fun z => if z = y then some (.ref D) else m z) := by
    refine ⟨hn₃.sameBut hs' hLC, fun b o e => ?_, (T2.pin (env.locals, oL) (.tail _ (.head _))).2.2, fun p hp => ⟨(sb _ (hP p hp).1).trans ((sb3 _ (hP p hp).2.2).trans (T2.pin p (.tail _ (.tail _ hp))).1), (hP p hp).2.2, (T2.pin p (.tail _ (.tail _ hp))).2.2⟩⟩
    have hb : b ≠ env.locals := by rintro rfl; rw [(T2.pin (env.locals, oL) (.tail _ (.head _))).2.2] at e; cases e
    exact (sb _ (T2.ne e)).trans ((sb3 _ hb).trans (T2.kp _ _ e))
  obtain ⟨g', T', kg, all⟩ := TL.all
  exact fin D kD ys g' h' T' (ok.keep _ _ _ _ j kg) (all _ _ hLD.symm (fun p hp => (hP p hp).2.1) ((sb _ hDC).trans ((sb3 _ hLD.symm).trans (T2.pin (D, listO ys kD) (.head _)).1)))
theorem e_comp {elt target iter : Expr} {ifs : List Expr} {scope : Scope} {cl : List (Str × Addr)} {pos : Pos} {x : Value} {n : Nat} {Pv : Nat → Value → Prop} {It : Nat → Obj → Prop} {In : Heap → Prop} {L : Addr} {P : List (Addr × Obj)} {m : Str → Option Value} {Q : Value → Heap → Prop}
    (S : Src w x n Pv It In) (hz : n ≤ 1000) (hh : A.handled = none) (J : Nat → List Value → Heap → Prop)
    (p : Wp w r A (eval iter env) (fun xv h₁ => xv = x ∧ ∃ g, At g L P h₁ m ∧ CompOk w r A elt target ifs scope cl env n Pv In L P m Q J g) h)
    (hclos : closureFor scope env = Pure.pure cl) (hcell : ∀ y ∈ scope.names, y.2 ≠ .cell) (hkind : scope.kind = .function) (hnames : ∀ y ∈ scope.names, y.2 = .local → scope.names.lookup y.1 = some .local)
    (hs : ∀ x, foldedSetIterable iter env x = Pure.pure x := by intro _; rfl) : Wp w r A (eval (.ListComp elt [⟨target, iter, ifs, 0⟩] scope pos) env) Q h :=
  e_compX hh (p.mono fun xv h₁ z => by
    obtain ⟨rfl, g, T, ok⟩ := z
    exact ⟨n, Pv, It, In, J, hz, S, g, T, ok⟩) hclos hcell hkind hnames hs
end
end Mine
end
noncomputable section
open PySem PySem.W PySem.Spec PySem.Calls PyProof.Rows
set_option maxRecDepth 100000
namespace Mine
section
variable {w : World} {r : Rst} {A : Around} {g h : Heap} {env : Env} {L : Addr} {P : List (Addr × Obj)} {m : Str → Option Value} {x : Str} {pos : Pos} {v : Value} {Q : Value → Heap → Prop}
theorem gK (D : Wd w g) (T : At g L P h m) (e : ∀ P, nsIn (K0 P) mainGlobals x = some (some v)) (q : Q v h)
    (hg : env.globals = mainGlobals := by rfl) (hk : env.scope.kind = .function := by rfl) (hx : env.kindOf x = some .globalImplicit := by rfl) (hd : (x == ("__debug__" : Str)) = false := by decide) :
    Wp w r A (eval (.Name x pos) env) Q h :=
  let ⟨_, G⟩ := D.g
  ⟨fun _ tk => Name_function_global hk hx (loadGlobal_global (s := stt r h tk) (env := env) (by rw [hg]; exact G.keeps T.kp) (mg_of D.X G (e _)) ⟨h, tk, rfl, q⟩) hd⟩
theorem gB (D : Wd w g) (T : At g L P h m) (e : ∀ P, nsIn (K0 P) mainGlobals x = some none) (hv : bootBuiltins x = some v) (q : Q v h) (hn : x ≠ "__name__" := by decide)
    (hg : env.globals = mainGlobals := by rfl) (hb : env.builtins = builtinsNs := by rfl) (hk : env.scope.kind = .function := by rfl) (hx : env.kindOf x = some .globalImplicit := by rfl) (hd : (x == ("__debug__" : Str)) = false := by decide) :
    Wp w r A (eval (.Name x pos) env) Q h :=
  let ⟨_, G⟩ := D.g
  let ⟨_, b, hb'⟩ := D.b
  ⟨fun _ tk => Name_function_global hk hx (loadGlobal_builtin (s := stt r h tk) (env := env) (by rw [hg]; exact G.keeps T.kp) (mg_none_of D.X G (e _)) (by rw [hb]; exact b.keeps T.kp) ((hb' x hn).trans hv) ⟨h, tk, rfl, q⟩) hd⟩
theorem gL (T : At g L P h m) (hv : m x = some v) (q : Q v h)
    (hl : env.locals = L := by rfl) (hk : env.scope.kind = .function := by rfl) (hx : env.kindOf x = some .local := by rfl) (hd : (x == ("__debug__" : Str)) = false := by decide) :
    Wp w r A (eval (.Name x pos) env) Q h := ⟨fun _ tk => wpAny_Name (wpAny_loadName_local (s := stt r h tk) hk hx (by rw [hl]; exact T.ns) hv ⟨h, tk, rfl, q⟩) hd⟩
theorem gC {c : Addr} {o : Obj} (T : At g L P h m) (hc : env.cells.lookup x = some c) (ho : g.get? c = some o) (hdt : o.data = .cell (some v)) (q : Q v h)
    (hk : env.scope.kind = .function := by rfl) (hx : env.kindOf x = some .cell := by rfl) (hd : (x == ("__debug__" : Str)) = false := by decide) :
    Wp w r A (eval (.Name x pos) env) Q h := ⟨fun _ tk => wpAny_Name (wpAny_loadName_cell (s := stt r h tk) hk hx hc ⟨o, T.kp _ _ ho, hdt⟩ ⟨h, tk, rfl, q⟩) hd⟩
theorem gS {Q : Unit → Heap → Prop} (T : At g L P h m) (q : ∀ h', At g L P h' (fun y => if y = x then some v else m y) → Q () h')
    (hl : env.locals = L := by rfl) (hk : env.scope.kind = .function := by rfl) (hx : env.kindOf x = some .local := by rfl) : Wp w r A (storeName env x v) Q h := by
  subst hl
  exact ⟨fun _ tk => wpAny_storeName_local (s := stt r h tk) hx T.ns (fun h' hn hs => ⟨h', tk + 1, rfl, q h' (T.set hn hs)⟩) (by rw [hk]; rfl)⟩
end
section
variable {w : World} {r : Rst} {A : Around} {h : Heap} {Q : Value → Heap → Prop}
theorem c_ord {c : Nat} {t : Tok} (q : ∀ t', Q (.int c t') h) : Wp w r A (call (.builtin "ord") [.str ⟨#[c]⟩ t]) Q h := ⟨fun E tk => PySem.P.ord_of_char (s := stt r h tk) ⟨h, tk + 1, rfl, q _⟩⟩
theorem c_chr {i : Int} {t : Tok} (hi : (decide (i < 0) || decide (i > 0x10FFFF)) = false) (q : ∀ t', Q (.str ⟨#[i.toNat]⟩ t') h) : Wp w r A (call (.builtin "chr") [.int i t]) Q h := ⟨fun E tk => PySem.P.chr_of_int (s := stt r h tk) hi ⟨h, tk + 1, rfl, q _⟩⟩
end
theorem g_b1 (P : Params) : nsIn (K0 P) mainGlobals "b1_set" = some (some (.ref 130)) := by kernel_rfl
theorem g_b3 (P : Params) : nsIn (K0 P) mainGlobals "b3_exceptions" = some (some (.ref 141)) := by kernel_rfl
theorem g_ord (P : Params) : nsIn (K0 P) mainGlobals "ord" = some none := by kernel_rfl
theorem boot_ord' : bootBuiltins "ord" = some (.builtin "ord") := by kernel_rfl
end Mine
end
noncomputable section
open PySem PySem.W PySem.Spec PySem.Calls PyProof.Rows
set_option maxRecDepth 100000
namespace Mine
def hashesOk (l : List (Int × Value)) : Bool := l.all fun e => match e.2 with | .int k _ => decide (e.1 = (hashInt k)) && (Value.int k 0).scannable | _ => false
noncomputable def es130 (P : Params) : Array (Int × Value) := match (o130 P).data with | .set es _ _ => es | _ => #[]
noncomputable def tb130 (P : Params) : Nat × SetTable := match (o130 P).data with | .set _ ep t => (ep, t) | _ => (0, .fresh 0 0 true)
theorem es130_ok (P : Params) : hashesOk (es130 P).toList = true := by kernel_rfl
theorem es130_fits (P : Params) : ((tb130 P).2.fits (es130 P).size) = true := by kernel_rfl
theorem hashesOk_elems {prog : Program} {w : World} {l : List (Int × Value)} (h : hashesOk l = true) : ElemsOf (intKind prog w) l := by
  rintro ⟨hh, v⟩ he
  have h1 := List.all_eq_true.mp h _ he
  cases v with
  | int k t =>
    have h2 : hh = hashInt k := of_decide_eq_true (Bool.and_eq_true_iff.mp h1).1
    exact ⟨⟨k, intKind_is _ _ _ _, h2⟩, rfl⟩
  | _ => exact absurd h1 Bool.false_ne_true
theorem set130 (w : World) : (o130 w.params).SetObjOf (intKind (Md w).prog w) (fun k => (es130 w.params).toList.any fun e => e.2.isInt k) 27 :=
  ⟨⟨rfl, rfl, rfl⟩, es130 w.params, (tb130 w.params).1, (tb130 w.params).2, rfl, hashesOk_elems (es130_ok _), fun k => by rw [List.any_eq_true]; rfl, by kernel_rfl, by rw [es130_fits]⟩
theorem look_130 (P : Params) : (K0 P).lookup 130 = some (o130 P) := by kernel_rfl
theorem look_141 (P : Params) : (K0 P).lookup 141 = some (o141 P) := by kernel_rfl
noncomputable def inB1 (P : Params) (k : Int) : Bool := (es130 P).toList.any fun e => e.2.isInt k
noncomputable def es141 (P : Params) : Array DictEntry × Nat := match (o141 P).data with | .dict es ep => (es, ep) | _ => (#[], 0)
def hashesOkD (l : List DictEntry) : Bool := l.all fun e => match e.key with | .int k _ => decide (e.hash = (hashInt k)) | _ => false
theorem es141_ok (P : Params) : hashesOkD (es141 P).1.toList = true := by kernel_rfl
theorem hashesOk_keys {prog : Program} {w : World} {l : Array DictEntry} (h : hashesOkD l.toList = true) : KeysOf (intKind prog w) l := by
  rintro ⟨hh, key, v⟩ he
  have h1 := List.all_eq_true.mp h _ (Array.mem_toList_iff.mpr he)
  cases key with
  | int k t => exact ⟨k, intKind_is _ _ _ _, of_decide_eq_true h1⟩
  | _ => exact absurd h1 Bool.false_ne_true
noncomputable def atB3 (P : Params) (k : Int) : Option Value := findBy Value.isInt (es141 P).1 k
section
variable {w : World} {r : Rst} {A : Around} {h : Heap} {Q : Value → Heap → Prop}
theorem map141 (D : Wd w h) : h.MapOf (intKind (Md w).prog w) 141 (atB3 w.params) :=
  ⟨o141 w.params, (es141 w.params).1, (es141 w.params).2, D.X _ _ (look_141 _), ⟨rfl, rfl, rfl⟩, rfl, hashesOk_keys (es141_ok _), fun _ => rfl⟩
theorem in130 (D : Wd w h) {c : Int} {t : Tok} (q : Q (.bool (inB1 w.params c)) h) : Wp w r A (compareOp .In (.int c t) (.ref 130)) Q h :=
  ⟨fun _ tk => wpAny_inSet_of (s := stt r h tk) (intKind_is _ w c t) rfl ((set130 w).setOf (D.X _ _ (look_130 _)) (by decide)) ⟨h, tk + 1, rfl, q⟩⟩
theorem get141 (D : Wd w h) {c : Int} {t : Tok} (q : Q ((atB3 w.params c).getD .none) h) : Wp w r A (call (.builtin "dict.get") [.ref 141, .int c t]) Q h :=
  ⟨fun _ tk => call_meetsIn (s := stt r h tk) PySem.F.slot_dict_get (map141 D).typeIs PySem.F.entry_dict_get (PySem.F.args_dict_get_2 _ _) (meets_dict_get (intKind (Md w).prog w) 141 (intKind_is _ w c t) rfl) ⟨_, map141 D, h, tk + 1, rfl, q⟩⟩
theorem get141_m (P : Params) (S : Setting) (pl) : peek (K0 P) S (getMethod (.ref 141) "get" pl) = some (.builtin "dict.get", [.ref 141]) := by kernel_rfl
end
end Mine
end
noncomputable section
open PySem PySem.W PySem.Spec PySem.Calls PyProof.Rows
set_option maxRecDepth 100000
namespace Mine
section
variable {w : World} {r : Rst} {A : Around} {h : Heap} {Q : Value → Heap → Prop}
theorem b1_ (D : Wd w h) {c : Nat} {t : Tok} {k : Nat} (R : Room A (k + 3)) (q : ∀ h', Kp h h' → Q (.bool (inB1 w.params c)) h') : Wp w r A (call (.ref 140) [.str ⟨#[c]⟩ t]) Q h := by
  refine callF D R (o := o140 w.params) (binds := [(s262, .str ⟨#[c]⟩ t)]) (by kernel_rfl) rfl (by kernel_rfl) (fun tk => BindsTo.of_eq rfl) (by rfl) (fun L h₁ hL T R => ?_) (by decide) rfl rfl rfl
  have D1 := D.kp T.kp
  refine s_cons (s_ret (e_cmp (c_fn ?_)))
  refine gB D T g_ord boot_ord' (w_bi (a_cons (nmL T rfl (a_nil (c_ord fun t₁ => ?_)))))
  refine gK D T g_b1 (in130 D1 ?_)
  exact q _ T.kp
theorem b3_ (D : Wd w h) {c : Nat} {t : Tok} {k : Nat} (R : Room A (k + 3)) {v : Value} (hv : (atB3 w.params c).getD .none = v) {y : Str}
    (hy : (∃ tv, v = .str y tv) ∨ (v = .none ∧ Txt.lower ⟨#[c]⟩ = y ∧ Builtin.Str.tooLong y.length = false)) (q : ∀ h' t', Kp h h' → Q (.str y t') h') : Wp w r A (call (.ref 186) [.str ⟨#[c]⟩ t]) Q h := by
  refine callF D R (o := o186 w.params) (binds := [(s262, .str ⟨#[c]⟩ t)]) (by kernel_rfl) rfl (by kernel_rfl) (fun tk => BindsTo.of_eq rfl) (by rfl) (fun L h₁ hL T R => ?_) (by decide) rfl rfl rfl
  have D1 := D.kp T.kp
  refine s_cons (s_asg (c_me fun pl => nmK D T g_b3 (peekK D1 (get141_m · · _) ?_)))
  refine w_bi (a_cons (c_fn (nmB D T g_ord boot_ord' (w_bi (a_cons (nmL T rfl (a_nil (c_ord fun t₁ => ?_))))))))
  refine a_nil (get141 D1 ?_)
  rw [hv]
  refine stL T fun h₂ T₂ => ?_
  refine s_cons (s_if (t_cmp (nmL T₂ rfl (e_none ?_))))
  rcases hy with ⟨tv, rfl⟩ | ⟨rfl, e, hl⟩
  · refine o_isNot rfl (t_bool ?_)
    refine s_cons (s_ret (nmL T₂ rfl ?_))
    exact q _ _ T₂.kp
  · refine o_isNot rfl (t_bool ?_)
    refine s_nil ?_
    refine s_cons (s_ret (c_me fun pl => nmL T₂ rfl ?_))
    refine g_lower (w_bi0 (c_lower (by rw [e]; exact hl) fun t₂ => ?_))
    rw [e]
    exact q _ _ T₂.kp
end
end Mine
end
noncomputable section
open PySem PySem.W PySem.Spec PySem.Calls PyProof.Rows
set_option maxRecDepth 100000
namespace Mine
abbrev keysG (G : List (Addr × Obj)) : List Addr := G.map (·.1)
abbrev standG (G : List (Addr × Obj)) (h : Heap) : Prop := ∀ p ∈ G, h.get? p.1 = some p.2
theorem At.pinG {g h h' : Heap} {L : Addr} {G P : List (Addr × Obj)} {m : Str → Option Value} (T : At g L P h m) (x : Kp h h') (n : ∀ p ∈ G, h.get? p.1 = none) (e : standG G h') : At g L (G ++ P) h' m := by
  have T' := T.ext x
  refine ⟨T'.ns, T'.kp, T'.out, fun p hp => ?_⟩
  rcases List.mem_append.mp hp with hp | hp
  · refine ⟨e p hp, ?_, none_of_ext (Ext.of T.kp []) (by simp) (n p hp)⟩
    obtain ⟨oL, _, _, hL, _⟩ := T.ns
    intro q
    have := n p hp
    rw [q, hL] at this; cases this
  · exact T'.pin p hp
theorem At.offG {g h h' : Heap} {L : Addr} {G P : List (Addr × Obj)} {m : Str → Option Value} (T : At g L (G ++ P) h m) (nP : ∀ p ∈ P, p.1 ∉ keysG G) (x : Ext (keysG G) h h') : At g L P h' m := by
  obtain ⟨oL, a1, a2, hL, a3⟩ := T.ns
  have nL : L ∉ keysG G := fun q => by
    obtain ⟨p, hp, e⟩ := List.mem_map.mp q
    exact (T.pin p (List.mem_append_left _ hp)).2.1 e
  refine ⟨⟨oL, a1, a2, x _ _ nL hL, a3⟩, fun b o e => x _ _ (fun q => ?_) (T.kp _ _ e), T.out, fun p hp => ⟨x _ _ (nP p hp) (T.pin p (List.mem_append_right _ hp)).1, (T.pin p (List.mem_append_right _ hp)).2⟩⟩
  obtain ⟨p, hp, rfl⟩ := List.mem_map.mp q
  rw [(T.pin p (List.mem_append_left _ hp)).2.2] at e; cases e
theorem At.updG {g h h' : Heap} {L : Addr} {G G' P : List (Addr × Obj)} {m : Str → Option Value} (T : At g L (G ++ P) h m) (nP : ∀ p ∈ P, p.1 ∉ keysG G) (x : Ext (keysG G) h h') (k : keysG G' = keysG G) (e : standG G' h') : At g L (G' ++ P) h' m := by
  have T' := T.offG nP x
  refine ⟨T'.ns, T'.kp, T'.out, fun p hp => ?_⟩
  rcases List.mem_append.mp hp with hp | hp
  · have : p.1 ∈ keysG G := by rw [← k]; exact List.mem_map_of_mem hp
    obtain ⟨p', hp', e'⟩ := List.mem_map.mp this
    have z := T.pin p' (List.mem_append_left _ hp')
    exact ⟨e p hp, by rw [← e']; exact z.2.1, by rw [← e']; exact z.2.2⟩
  · exact T'.pin p hp
structure SrcG (w : World) (n : Nat) (Pv : Nat → Value → Heap → Prop) (It : Nat → Addr → List (Addr × Obj) → Prop) : Prop where
  self : ∀ (r : Rst) (A : Around) (h : Heap) (I : Addr) (G : List (Addr × Obj)) (i : Nat) (Q : Value → Heap → Prop), A.handled = none → standG G h → It i I G → Q (.ref I) h → Wp w r A (pyIter (.ref I)) Q h
  item : ∀ (r : Rst) (A : Around) (h : Heap) (I : Addr) (G : List (Addr × Obj)) (i : Nat) (elts : List Expr) (k : Nat) (pos : Pos) (Q : Value → Heap → Prop), A.handled = none → standG G h → It i I G → i < n →
    (∀ v h' G', Pv i v h' → Ext (keysG G) h h' → keysG G' = keysG G → standG G' h' → It (i + 1) I G' → Q v h') → Wp w r A (pyNext (.ref I)) (fun ov h₁ => ∃ v, ov = some v ∧ Wp w r A (letOwnedTupleGo (.Tuple elts k pos) (.ref I) v) (fun _ h₂ => Q v h₂) h₁) h
  done : ∀ (r : Rst) (A : Around) (h : Heap) (I : Addr) (G : List (Addr × Obj)) (Q : Option Value → Heap → Prop), A.handled = none → standG G h → It n I G → (∀ h', Ext (keysG G) h h' → Q none h') → Wp w r A (pyNext (.ref I)) Q h
section
variable {w : World} {r : Rst} {A : Around} {h : Heap} {env : Env}
theorem lp_srcG {I : Addr} {G₀ : List (Addr × Obj)} {n : Nat} {Pv : Nat → Value → Heap → Prop} {It : Nat → Addr → List (Addr × Obj) → Prop} (S : SrcG w n Pv It) (hh : A.handled = none) {g : Heap} {L : Addr} {P : List (Addr × Obj)} {m : Str → Option Value} {elts : List Expr} {ek : Nat} {epos : Pos} {body : List Stmt}
    {Q : Flow → Heap → Prop} (J : Nat → Heap → (Str → Option Value) → Prop) (T : At g L (G₀ ++ P) h m) (nP : ∀ p ∈ P, p.1 ∉ keysG G₀) (it0 : It 0 I G₀) (j0 : J 0 g m)
    (turn : ∀ i v G g m h, i < n → Pv i v h → At g L (G ++ P) h m → J i g m → Wp w r A (assign (.Tuple elts ek epos) env v) (fun _ h₂ => Wp w r A (execs body env) (fun f h₃ => match f with
        | .next | .cont => ∃ g' m', At g' L (G ++ P) h₃ m' ∧ J (i + 1) g' m'
        | .brk => Q .next h₃
        | .ret v => Q (.ret v) h₃) h₂) h)
    (fin : ∀ g m h, At g L P h m → J n g m → Q .next h) : Lp w r A (.Tuple elts ek epos) (.ref I) body [] env Q h := by
  refine ⟨fun E tk => (S.self r A h I G₀ 0 (fun v h' => v = .ref I ∧ h' = h) hh (fun p hp => (T.pin p (List.mem_append_left _ hp)).1) it0 ⟨rfl, rfl⟩).into fun v h₁ tk₁ z => ?_⟩
  obtain ⟨rfl, rfl⟩ := z
  refine codeAny_forLoop_any (fun k s => ∃ i h tk g m G, s = stt r h tk ∧ i ≤ n ∧ k = n + 1 - i ∧ It i I G ∧ keysG G = keysG G₀ ∧ At g L (G ++ P) h m ∧ J i g m) ?_ (n + 1) ⟨0, _, tk₁, g, m, G₀, rfl, Nat.zero_le _, rfl, it0, rfl, T, j0⟩
  rintro k s zz; refine xj6 zz fun i h tk g m G zz0 => ?_; clear zz; refine cj7 zz0 fun e1 hi e2 it hk T j => ?_; clear zz0; subst e1; subst e2
  have st : standG G h := fun p hp => (T.pin p (List.mem_append_left _ hp)).1
  have nP' : ∀ p ∈ P, p.1 ∉ keysG G := by rw [hk]; exact nP
  rcases Nat.lt_or_ge i n with lt | ge
  · refine (S.item r A h I G i elts ek epos (fun v h' => ∃ G', Pv i v h' ∧ Ext (keysG G) h h' ∧ keysG G' = keysG G ∧ standG G' h' ∧ It (i + 1) I G') hh st it lt (fun v h' G' pv x' k' e' it' => ⟨G', pv, x', k', e', it'⟩)).into fun v h₂ tk₂ z => ?_
    obtain ⟨u, rfl, z⟩ := z
    refine z.into fun _ h₃ tk₃ z => ?_
    obtain ⟨G', pv, x', k', e', it'⟩ := z
    refine (turn i u G' g m _ lt pv (T.updG nP' x' k' e') j).into fun _ h₄ tk₄ z => z.into fun f h₅ tk₅ z => ?_
    cases f with
    | next => obtain ⟨g', m', T', j'⟩ := z; exact ⟨n + 1 - (i + 1), by omega, i + 1, h₅, tk₅, g', m', G', rfl, lt, rfl, it', k'.trans hk, T', j'⟩
    | cont => obtain ⟨g', m', T', j'⟩ := z; exact ⟨n + 1 - (i + 1), by omega, i + 1, h₅, tk₅, g', m', G', rfl, lt, rfl, it', k'.trans hk, T', j'⟩
    | brk => exact ⟨h₅, tk₅, rfl, z⟩
    | ret v => exact ⟨h₅, tk₅, rfl, z⟩
  · have en : i = n := Nat.le_antisymm hi ge
    subst en
    refine (S.done r A h I G (fun v h' => v = none ∧ Ext (keysG G) h h') hh st it (fun h' x' => ⟨rfl, x'⟩)).into fun v h₂ tk₂ z => ?_
    obtain ⟨rfl, x'⟩ := z
    exact wpAny_execs_nil ⟨h₂, tk₂, rfl, fin g m h₂ (T.offG nP' x') j⟩
end
end Mine
end
noncomputable section
open PySem PySem.W PySem.Spec PySem.Calls PyProof.Rows
set_option maxRecDepth 100000
namespace Mine
def enumO (it : Addr) (i : Nat) (old : Value) : Obj := { cls := .type "enumerate", dict := none, data := .fields #[.none, .bool false, .ref it, rawInt i, .none, old], slots := #[] }
def ItEnum (x : Str) (t : Tok) (i : Nat) (I : Addr) (G : List (Addr × Obj)) : Prop := ∃ it o old, I ≠ it ∧ G = [(I, enumO it i old), (it, o)] ∧ SiterAt "str_ascii_iterator" x t i o
theorem SrcG.enum (w : World) (x : Str) (t : Tok) : SrcG w x.cps.size (fun i v h => ∃ T u c u', v = .ref T ∧ x.cps[i]? = some c ∧ h.IsTuple T #[.int i u, .str ⟨#[c]⟩ u']) (ItEnum x t) where
  self := fun r A h I G i Q hh st ⟨it, o, old, ne, e, s⟩ q => ⟨fun E tk => by
    subst e
    exact wpAny_pyIter_enum (s := stt r h tk) (e := I) (it := it) (i := i) (old := old) (st (I, enumO it i old) (.head _)) ⟨h, tk, rfl, q⟩⟩
  item := fun r A h I G i elts k pos Q hh st ⟨it, o, old, ne, e, s⟩ lt q => ⟨fun E tk => by
    subst e
    have D := Draws.strAscii (prog := PW) (w := w) (A := A.in1) hh it x t
    have W := WalksT.enumerateD D I ne (by simpa using ne) (by simp)
    refine W.item i (stt r h tk) _ E lt ⟨⟨old, st (I, enumO it i old) (.head _)⟩, o, st (it, o) (.tail _ (.head _)), s⟩ fun T vals h' tk' pt hT isT mid k => ⟨h', tk', rfl, .ref T, rfl, ⟨fun E tk'' => ?_⟩⟩
    obtain ⟨t₁, xv, ⟨c, u, hc, rfl⟩, rfl⟩ := pt
    have nT : T ≠ I ∧ T ≠ it := by
      have := W.apart _ _ _ mid
      simp at this; exact this
    refine W.go elts _ pos i T (stt r h' tk'') _ E mid fun h'' st' k' => ?_
    obtain ⟨⟨old', e'⟩, o', eo', s'⟩ := st'
    have isT' : h''.IsTuple T #[.int i t₁, .str ⟨#[c]⟩ u] := by
      obtain ⟨oT, e1, r1⟩ := isT
      exact ⟨oT, k' T oT (by simp [nT.1, nT.2]) e1, r1⟩
    refine ⟨h'', tk'', rfl, q (.ref T) h'' [(I, enumO it (i + 1) old'), (it, o')] ⟨T, _, _, _, rfl, hc, isT'⟩ (fun b ob hb e => k' b ob hb (k b ob hb e)) rfl (fun p hp => ?_) ⟨it, o', old', ne, rfl, s'⟩⟩
    rcases List.mem_cons.mp hp with rfl | hp
    · exact e'
    · rw [List.mem_singleton.mp hp]; exact eo'⟩
  done := fun r A h I G Q hh st ⟨it, o, old, ne, e, s⟩ q => ⟨fun E tk => by
    subst e
    have D := Draws.strAscii (prog := PW) (w := w) (A := A.in1) hh it x t
    have W := WalksT.enumerateD D I ne (by simpa using ne) (by simp)
    exact W.done (stt r h tk) _ E ⟨⟨old, st (I, enumO it _ old) (.head _)⟩, o, st (it, o) (.tail _ (.head _)), s⟩ fun h' tk' k => ⟨h', tk', rfl, q h' fun b ob hb e => k b ob hb e⟩⟩
section
variable {w : World} {r : Rst} {A : Around} {h : Heap} {env : Env}
theorem c_enum {x : Str} {t : Tok} {Q : Value → Heap → Prop} (ha : x.cps.all (· < 128) = true) (q : ∀ I G h', Kp h h' → (∀ p ∈ G, h.get? p.1 = none) → standG G h' → ItEnum x t 0 I G → Q (.ref I) h') : Wp w r A (call (.type "enumerate") [.str x t]) Q h :=
  ⟨fun E tk => call_enumerate_str (s := stt r h tk) fun h' he hi hz k => ⟨h', tk, rfl, by
    obtain ⟨o, eo, hc, hd⟩ := hi
    have n1 : h.get? h.objs.size = none := fresh_none fun _ _ e => e
    have n2 : h.get? (h.objs.size + 1) = none := by
      cases e : h.get? (h.objs.size + 1) with
      | none => rfl
      | some o => exact absurd (Heap.lt_size e) Nat.not_succ_lt_self
    refine q (h.objs.size + 1) [(h.objs.size + 1, enumO h.objs.size 0 .none), (h.objs.size, o)] h' k ?_ ?_ ⟨h.objs.size, o, .none, Nat.succ_ne_self _, rfl, ?_, hd⟩
    · intro p hp
      rcases List.mem_cons.mp hp with rfl | hp
      · exact n2
      · rw [List.mem_singleton.mp hp]; exact n1
    · intro p hp
      rcases List.mem_cons.mp hp with rfl | hp
      · exact he
      · rw [List.mem_singleton.mp hp]; exact eo
    · rw [hc]; unfold strIterType; rw [ha]; rfl⟩⟩
theorem a_tupI {elts : List Expr} {k : Nat} {pos : Pos} {T : Addr} {vs : Array Value} {Q : Unit → Heap → Prop} (hh : A.handled = none) (e : h.IsTuple T vs) (p : ∀ h', Kp h h' → Wp w r A (assignInOrder ((assignEach elts env).map (·.2)) vs.toList) Q h')
    (hn : (assignEach elts env).length = vs.size) (hstar : (assignEach elts env).findIdx? (·.1) = none) : Wp w r A (assign (.Tuple elts k pos) env (.ref T)) Q h :=
  ⟨fun E tk => wpAny_assign_Tuple (s := stt r h tk) hh (items := vs) e hn hstar fun h' x => by
    have k : Kp h h' := fun b o eb => x b o (Nat.ne_of_lt (Heap.lt_size eb)) eb
    exact (p h' k).run E tk⟩
end
end Mine
end
noncomputable section
open PySem PySem.W PySem.Spec PySem.Calls PyProof.Rows
set_option maxRecDepth 100000
namespace Mine
theorem Str.ext' {x y : Str} (h : x.cps = y.cps) : x = y := by cases x; cases y; cases h; rfl
theorem len0 {x : Str} (e : (x.length == 0) = true) : x.cps = #[] := by
  have : x.length = 0 := by simpa using e
  exact Array.eq_empty_of_size_eq_zero this
theorem cat_nil (x : Str) {y : Str} (e : x.cps = #[]) : x ++ y = y := Str.ext' (by show x.cps ++ y.cps = _; rw [e]; simp)
theorem nil_cat (x : Str) {y : Str} (e : y.cps = #[]) : x ++ y = x := Str.ext' (by show x.cps ++ y.cps = _; rw [e]; simp)
section
variable {w : World} {r : Rst} {A : Around} {h : Heap} {env : Env} {Q : Value → Heap → Prop}
theorem o_addi {a b : Int} {t u : Tok} (q : ∀ t', Q (.int (a + b) t') h) : Wp w r A (binaryOp .Add (.int a t) (.int b u)) Q h := ⟨fun _ tk => PySem.P.add_int (s := stt r h tk) ⟨h, tk + 1, rfl, q _⟩⟩
theorem o_subi {a b : Int} {t u : Tok} (q : ∀ t', Q (.int (a - b) t') h) : Wp w r A (binaryOp .Sub (.int a t) (.int b u)) Q h := ⟨fun _ tk => PySem.P.sub_int (s := stt r h tk) ⟨h, tk + 1, rfl, q _⟩⟩
theorem o_modi {a b : Int} {t u : Tok} (hb : b ≠ 0) (q : ∀ t', Q (.int (a.fmod b) t') h) : Wp w r A (binaryOp .Mod (.int a t) (.int b u)) Q h := ⟨fun _ tk => mod_int' (s := stt r h tk) hb ⟨h, tk + 1, rfl, q _⟩⟩
theorem cat_post {x y : Str} {t u : Tok} {tk : Nat} (hz : (x ++ y).length ≤ 2000) (q : ∀ t', Q (.str (x ++ y) t') h) : (if x.length == 0 then Made.val (.str y u) else if y.length == 0 then Made.val (.str x t) else Made.str (x ++ y)).post (Post r Q) (stt r h tk) := by
  split
  · rename_i e; exact ⟨h, tk, rfl, by have := q u; rw [cat_nil x (len0 e)] at this; exact this⟩
  · split
    · rename_i _ e; exact ⟨h, tk, rfl, by have := q t; rw [nil_cat x (len0 e)] at this; exact this⟩
    · exact ⟨Nat.le_trans hz szLine, h, tk + 1, rfl, q _⟩
theorem o_adds {x y : Str} {t u : Tok} (hz : (x ++ y).length ≤ 2000) (q : ∀ t', Q (.str (x ++ y) t') h) : Wp w r A (binaryOp .Add (.str x t) (.str y u)) Q h := ⟨fun _ tk => PySem.P.add_str (s := stt r h tk) (cat_post hz q)⟩
theorem o_iadds {x y : Str} {t u : Tok} (hz : (x ++ y).length ≤ 2000) (q : ∀ t', Q (.str (x ++ y) t') h) : Wp w r A (inplaceOp .Add (.str x t) (.str y u)) Q h := ⟨fun _ tk => PySem.P.iadd_str (s := stt r h tk) (cat_post hz q)⟩
theorem sub_list {value slice : Expr} {l : Addr} {vs : List Value} {n : Nat} {k : Int} {u : Tok} {x : Value} (e : h.get? l = some (listO vs n)) (h0 : 0 ≤ k) (hf : k < 2 ^ 63) (hx : vs[k.toNat]? = some x) (q : Q x h)
    (hs : subscripted slice false (.ref l) (.int k u) = operate [.ref l, .int k u] (getItem (.ref l) (.int k u)) := by with_unfolding_all rfl) : Wp w r A (subscriptTail value slice (.ref l) (.int k u)) Q h :=
  ⟨fun E tk => item_listR (s := stt r h tk) (items := vs.toArray) ⟨_, e, rfl, n, rfl⟩ h0 hf (by simpa using hx) ⟨h, tk, rfl, q⟩ hs⟩
end
end Mine
end
noncomputable section
open PySem PySem.W PySem.Spec PySem.Calls PyProof.Rows
set_option maxRecDepth 100000
namespace Mine
def bigKeys (l : List DictEntry) : Bool := l.all fun e => match e.key with | .int (.ofNat k) _ => Nat.blt 150 k | _ => false
theorem es141_big (P : Params) : bigKeys (es141 P).1.toList = true := by kernel_rfl
theorem b3_none (P : Params) (c : Nat) (hc : c ≤ 150) : atB3 P (c : Int) = none := by
  unfold atB3 findBy
  rw [Option.map_eq_none_iff, Array.find?_eq_none]
  rintro ⟨hh, key, v⟩ he
  have h1 := List.all_eq_true.mp (es141_big P) _ (Array.mem_toList_iff.mpr he)
  intro h2
  obtain ⟨t, e⟩ := Value.isInt_shape h2
  dsimp only at e
  subst e
  have : Nat.blt 150 c = true := h1
  rw [Nat.blt_eq] at this
  omega
theorem b1_no (P : Params) : ((List.range 8).all fun j => !inB1 P ((97 + j : Nat) : Int) && !inB1 P ((65 + j : Nat) : Int) && !inB1 P ((119808 + j : Nat) : Int)) = true := by kernel_rfl
theorem b1_yes (P : Params) : inB1 P ((173 : Nat) : Int) = true := by kernel_rfl
theorem b3_ma (P : Params) : ((List.range 8).all fun j => match atB3 P ((119808 + j : Nat) : Int) with | some (.str x _) => decide (x.cps.toList = [97 + j]) | _ => false) = true := by kernel_rfl
def tx (js : List Nat) : Str := ⟨(js.map (97 + ·)).toArray⟩
def sg (n : Int) (j : Nat) : List Nat := if n = 0 then [97 + j] else if n = 1 then [65 + j] else if n = 2 then [119808 + j] else [97 + j, 173]
def sgs (v : Int) (js : List Nat) : List Nat := js.zipIdx.flatMap fun p => sg ((v + p.2).fmod 4) p.1
theorem sg_len (n : Int) (j : Nat) : (sg n j).length ≤ 2 := by unfold sg; (repeat' split) <;> simp
theorem sgs_len' (v : Int) : ∀ (js : List Nat) (k : Nat), ((js.zipIdx k).flatMap fun p => sg ((v + p.2).fmod 4) p.1).length ≤ 2 * js.length
  | [], _ => Nat.zero_le _
  | j :: js, k => by
    rw [List.zipIdx_cons, List.flatMap_cons, List.length_append, List.length_cons]
    have h1 := sg_len ((v + (k : Int)).fmod 4) j
    have h2 := sgs_len' v js (k + 1)
    dsimp only at h1 h2 ⊢
    omega
theorem sgs_len (v : Int) (js : List Nat) : (sgs v js).length ≤ 2 * js.length := sgs_len' v js 0
def dc (c : Nat) : List Nat := if c = 173 then [] else if c < 97 then [c + 32] else if c < 200 then [c] else [c - 119711]
inductive Sign : Nat → Prop
  | soft : Sign 173
  | lo (j : Nat) : j < 8 → Sign (97 + j)
  | up (j : Nat) : j < 8 → Sign (65 + j)
  | ma (j : Nat) : j < 8 → Sign (119808 + j)
theorem sgs_sign {v : Int} {js : List Nat} (hj : ∀ j ∈ js, j < 8) : ∀ c ∈ sgs v js, Sign c := by
  intro c hc
  obtain ⟨p, hp, h⟩ := List.mem_flatMap.mp hc
  have h8 := hj p.1 (List.fst_mem_of_mem_zipIdx hp)
  revert h
  unfold sg
  repeat' split
  all_goals intro h; simp only [List.mem_cons, List.not_mem_nil, or_false] at h
  · subst h; exact .lo _ h8
  · subst h; exact .up _ h8
  · subst h; exact .ma _ h8
  · rcases h with rfl | rfl
    · exact .lo _ h8
    · exact .soft
theorem dc_lo {j : Nat} (h : j < 8) : dc (97 + j) = [97 + j] := by unfold dc; rw [if_neg (by omega), if_neg (by omega), if_pos (by omega)]
theorem dc_up {j : Nat} (h : j < 8) : dc (65 + j) = [97 + j] := by unfold dc; rw [if_neg (by omega), if_pos (by omega), show 65 + j + 32 = 97 + j by omega]
theorem dc_ma {j : Nat} (h : j < 8) : dc (119808 + j) = [97 + j] := by unfold dc; rw [if_neg (by omega), if_neg (by omega), if_neg (by omega), show 119808 + j - 119711 = 97 + j by omega]
theorem sg_dc (n : Int) {j : Nat} (h8 : j < 8) : (sg n j).flatMap dc = [97 + j] := by
  unfold sg
  repeat' split
  · rw [List.flatMap_cons, dc_lo h8]; rfl
  · rw [List.flatMap_cons, dc_up h8]; rfl
  · rw [List.flatMap_cons, dc_ma h8]; rfl
  · rw [List.flatMap_cons, dc_lo h8]; rfl
theorem sgs_dc' (v : Int) : ∀ (js : List Nat) (k : Nat), (∀ j ∈ js, j < 8) → ((js.zipIdx k).flatMap fun p => sg ((v + p.2).fmod 4) p.1).flatMap dc = js.map (97 + ·)
  | [], _, _ => rfl
  | j :: js, k, hj => by
    rw [List.zipIdx_cons, List.flatMap_cons, List.flatMap_append, sgs_dc' v js (k + 1) fun j hm => hj j (.tail _ hm), List.map_cons]
    dsimp only
    rw [sg_dc _ (hj j (.head _))]; rfl
theorem sgs_dc {v : Int} {js : List Nat} (hj : ∀ j ∈ js, j < 8) : (sgs v js).flatMap dc = js.map (97 + ·) := sgs_dc' v js 0 hj
theorem all8 {f : Nat → Bool} (h : ((List.range 8).all f) = true) {j : Nat} (hj : j < 8) : f j = true := List.all_eq_true.mp h j (List.mem_range.mpr hj)
theorem b1_sign (P : Params) {c : Nat} (hc : Sign c) : inB1 P (c : Int) = decide (c = 173) := by
  cases hc with
  | soft => rw [b1_yes]; rfl
  | lo j hj =>
    have := all8 (b1_no P) hj
    simp only [Bool.and_eq_true, Bool.not_eq_true'] at this
    rw [this.1.1]; exact (decide_eq_false (by omega)).symm
  | up j hj =>
    have := all8 (b1_no P) hj
    simp only [Bool.and_eq_true, Bool.not_eq_true'] at this
    rw [this.1.2]; exact (decide_eq_false (by omega)).symm
  | ma j hj =>
    have := all8 (b1_no P) hj
    simp only [Bool.and_eq_true, Bool.not_eq_true'] at this
    rw [this.2]; exact (decide_eq_false (by omega)).symm
def mk (cs : List Nat) : Str := ⟨cs.toArray⟩
theorem b3_sign (P : Params) {c : Nat} (hc : Sign c) (hn : c ≠ 173) : ∃ v, (atB3 P (c : Int)).getD .none = v ∧ ((∃ tv, v = .str (mk (dc c)) tv) ∨ (v = .none ∧ Txt.lower ⟨#[c]⟩ = mk (dc c) ∧ Builtin.Str.tooLong (mk (dc c)).length = false)) := by
  cases hc with
  | soft => exact absurd rfl hn
  | lo j hj =>
    refine ⟨_, rfl, .inr ⟨by rw [b3_none P _ (by omega)]; rfl, ?_, ?_⟩⟩
    · rw [dc_lo hj]; exact low_lo j hj
    · rw [dc_lo hj]; show decide (1 > sizeLine) = false; decide +kernel
  | up j hj =>
    refine ⟨_, rfl, .inr ⟨by rw [b3_none P _ (by omega)]; rfl, ?_, ?_⟩⟩
    · rw [dc_up hj]; exact low_up j hj
    · rw [dc_up hj]; show decide (1 > sizeLine) = false; decide +kernel
  | ma j hj =>
    have := all8 (b3_ma P) hj
    revert this
    cases e : atB3 P ((119808 + j : Nat) : Int) with
    | none => intro h; cases h
    | some v =>
      cases v <;> intro h <;> try cases h
      rename_i x tv
      have hx : x.cps.toList = [97 + j] := by simpa using h
      refine ⟨_, rfl, .inl ⟨tv, ?_⟩⟩
      rw [dc_ma hj]
      show Value.str x tv = _
      congr 1
      exact Str.ext' (by show x.cps = _; rw [← Array.toArray_toList (xs := x.cps), hx]; rfl)
theorem g_inb1 (P : Params) : nsIn (K0 P) mainGlobals "in_table_b1" = some (some (.ref 140)) := by kernel_rfl
theorem g_mapb3 (P : Params) : nsIn (K0 P) mainGlobals "map_table_b3" = some (some (.ref 186)) := by kernel_rfl
def sv (zs : List (List Nat × Tok)) : List Value := zs.map fun z => .str (mk z.1) z.2
theorem glued_fold : ∀ (l : List (List Nat)) (acc : Array Nat), (l.map mk).foldl (fun acc (p : Str) => acc ++ ("" : Str).cps ++ p.cps) acc = acc ++ (l.flatMap id).toArray
  | [], acc => by simp
  | x :: l, acc => by
    rw [List.map_cons, List.foldl_cons, glued_fold l]
    have : ("" : Str).cps = #[] := by kernel_rfl
    rw [this]
    simp [mk, Array.append_assoc]
theorem glued0 (l : List (List Nat)) : Txt.join "" (l.map mk) = mk (l.flatMap id) := by
  cases l with
  | nil => rfl
  | cons x l =>
    refine Str.ext' ?_
    show (l.map mk).foldl (fun acc (p : Str) => acc ++ ("" : Str).cps ++ p.cps) (mk x).cps = _
    rw [glued_fold]
    simp [mk]
theorem sv_eq (zs : List (List Nat × Tok)) : sv zs = strValues (zs.map fun z => (mk z.1, z.2)) := by
  unfold sv strValues
  rw [List.map_map]; rfl
theorem sum_le_flat : ∀ (zs : List (List Nat)), ((zs.map mk).map (·.length)).sum = (zs.flatMap id).length
  | [] => rfl
  | z :: zs => by
    rw [List.map_cons, List.map_cons, List.sum_cons, sum_le_flat zs, List.flatMap_cons, List.length_append]; rfl
section
variable {w : World} {r : Rst} {A : Around} {h : Heap} {Q : Value → Heap → Prop}
theorem c_join0 {t : Tok} {D : Addr} {zs : List (List Nat × Tok)} {n : Nat} (e : h.get? D = some (listO (sv zs) n)) (hz : (zs.flatMap (·.1)).length ≤ 1000) (q : ∀ t', Q (.str (mk (zs.flatMap (·.1))) t') h) : Wp w r A (call (.builtin "str.join") [.str "" t, .ref D]) Q h := by
  have e1 : (zs.map fun z => (mk z.1, z.2)).map (·.1) = (zs.map (·.1)).map mk := by simp
  have e2 : Txt.join "" ((zs.map fun z => (mk z.1, z.2)).map (·.1)) = mk (zs.flatMap (·.1)) := by
    rw [e1, glued0, List.flatMap_map]; rfl
  refine c_join (l := zs.map fun z => (mk z.1, z.2)) (n := n) (by rw [← sv_eq]; exact e) ?_ (fun t' => by rw [e2]; exact q t')
  unfold JoinOk
  rw [StrLaws.joinTotal, e1, sum_le_flat, show (("" : Str).length) = 0 by kernel_rfl, List.flatMap_map]
  have h1 : (2 : Nat) ^ 24 = 16777216 := by decide
  have h2 : (zs.flatMap fun a => id a.1).length ≤ 1000 := hz
  unfold Builtin.Str.tooLong sizeLine
  rw [Bool.not_eq_true']
  exact decide_eq_false (by omega)
end
theorem g_enum (P : Params) : nsIn (K0 P) mainGlobals "enumerate" = some none := by kernel_rfl
theorem g_chr (P : Params) : nsIn (K0 P) mainGlobals "chr" = some none := by kernel_rfl
theorem boot_chr' : bootBuiltins "chr" = some (.builtin "chr") := by kernel_rfl
section
variable {w : World} {r : Rst} {A : Around} {h : Heap} {Q : Value → Heap → Prop}
theorem tx_ascii {js : List Nat} (hj : ∀ j ∈ js, j < 8) : (tx js).cps.all (· < 128) = true := by
  simp only [tx, List.all_toArray, List.all_map, List.all_eq_true, Function.comp, decide_eq_true_eq]
  intro j hm
  have := hj j hm
  omega
theorem read_ (D : Wd w h) {js : List Nat} (hj : ∀ j ∈ js, j < 8) (hl : js.length ≤ 8) {v : Int} {t tv : Tok} {k : Nat} (R : Room A (k + 6)) (q : ∀ h' t', Kp h h' → Q (.str (tx js) t') h') : Wp w r A (call (.ref 341) [.str (tx js) t, .int v tv]) Q h := by
  refine callF D R (o := o341 w.params) (binds := [("row", .str (tx js) t), ("v", .int v tv)]) (by kernel_rfl) rfl (by kernel_rfl) (fun tk => BindsTo.of_eq rfl) (by rfl) (fun L h₁ hL T R => ?_) (by decide) rfl rfl rfl
  refine s_cons (s_asg (e_str fun t₁ => stL T fun h₂ T₂ => ?_))
  refine s_cons (s_for (c_fn (nmB D T₂ g_enum boot_enumerate (w_ty (a_cons (nmL T₂ rfl (a_nil (c_enum (tx_ascii hj) fun I G h₃ k₃ nG sG it => ?_))))))))
  have T₃ := T₂.pinG k₃ nG sG
  refine lp_srcG (SrcG.enum w (tx js) t) R.handled (fun i g m => g = h ∧ m "row" = some (.str (tx js) t) ∧ m "v" = some (.int v tv) ∧ ∃ t', m "signs" = some (.str ⟨(sgs v (js.take i)).toArray⟩ t')) T₃ (by simp) it ⟨rfl, rfl, rfl, _, rfl⟩ ?_ ?_
  · rintro i u G g m h₄ lt ⟨Tu, u₁, c, u₂, rfl, hc, isT⟩ T₄ ⟨rfl, m1, m2, t', m3⟩
    obtain ⟨j, hj', rfl⟩ : ∃ j, js[i]? = some j ∧ 97 + j = c := by
      simp only [tx, List.getElem?_toArray, List.getElem?_map, Option.map_eq_some_iff] at hc
      exact hc
    have j8 : j < 8 := hj j (List.mem_of_getElem? hj')
    refine a_tupI R.handled isT (fun h₅ k₅ => ?_) rfl rfl
    refine io_cons (a_name (stL (T₄.ext k₅) fun h₆ T₆ => io_cons (a_name (stL T₆ fun h₇ T₇ => io_nil ?_))))
    refine s_cons (s_aug (ldL T₇ m3 (e_sub (e_list (a_cons (nmL T₇ rfl (a_cons (c_me fun pl => nmL T₇ rfl ?_))))))))
    refine g_upper (w_bi0 (c_upper (by rw [show (⟨#[97 + j]⟩ : Str) = lo j from rfl, up_lo j j8]; show decide (1 > sizeLine) = false; decide +kernel) fun t₂ => ?_))
    refine a_cons (c_fn (nmB D T₇ g_chr boot_chr' (w_bi (a_cons (e_bin (e_bin (e_int fun t₃ => ?_)))))))
    refine c_fn (nmB D T₇ g_ord boot_ord' (w_bi (a_cons (nmL T₇ rfl (a_nil (c_ord fun t₄ => o_addi fun t₅ => e_int fun t₆ => o_subi fun t₇ => ?_))))))
    have e97 : (119808 + ((97 + j : Nat) : Int) - 97) = ((119808 + j : Nat) : Int) := by omega
    rw [e97]
    refine a_nil (c_chr (by simp; omega) fun t₈ => ?_)
    refine a_cons (e_bin (nmL T₇ rfl (e_str fun t₉ => o_adds (by show 2 ≤ 2000; decide) fun t₁₀ => a_nil (n_list (fun l h₈ k₈ nl e₈ => ?_)))))
    have T₈ := T₇.ext k₈
    refine e_bin (e_bin (nmL T₈ m2 (nmL T₈ rfl (o_addi fun t₁₁ => e_int fun t₁₂ => o_modi (by decide) fun t₁₃ => ?_))))
    have n0 : 0 ≤ (v + (i : Int)).fmod 4 := Int.fmod_nonneg_of_pos _ (by decide)
    have n4 : (v + (i : Int)).fmod 4 < 4 := Int.fmod_lt_of_pos _ (by decide)
    have sgt : sgs v (js.take (i + 1)) = sgs v (js.take i) ++ sg ((v + (i : Int)).fmod 4) j := by
      unfold sgs
      rw [List.take_add_one, hj', Option.toList, List.zipIdx_append, List.flatMap_append]
      have li : (js.take i).length = i := by rw [List.length_take]; have := (List.getElem?_eq_some_iff.mp hj').1; omega
      simp [li]
    have : ∃ tt, [Value.str ⟨#[97 + j]⟩ u₂, .str (Txt.upper ⟨#[97 + j]⟩) t₂, .str ⟨#[((119808 + j : Nat) : Int).toNat]⟩ t₈, .str ((⟨#[97 + j]⟩ : Str) ++ ⟨#[173]⟩) t₁₀][((v + (i : Int)).fmod 4).toNat]? = some (.str ⟨(sg ((v + (i : Int)).fmod 4) j).toArray⟩ tt) := by
      generalize (v + (i : Int)).fmod 4 = n at n0 n4
      have : n = 0 ∨ n = 1 ∨ n = 2 ∨ n = 3 := by omega
      rcases this with rfl | rfl | rfl | rfl
      · exact ⟨_, rfl⟩
      · exact ⟨_, by show some (Value.str (Txt.upper (lo j)) _) = _; rw [up_lo j j8]; rfl⟩
      · exact ⟨_, rfl⟩
      · exact ⟨_, rfl⟩
    obtain ⟨tt, ex⟩ := this
    refine sub_list e₈ n0 (by omega) ex (o_iadds ?_ fun t₁₄ => stL T₈ fun h₉ T₉ => s_nil ?_)
    · have := sgs_len v (js.take i)
      have l8 : (js.take i).length ≤ 8 := by rw [List.length_take]; omega
      have g2 := sg_len ((v + (i : Int)).fmod 4) j
      show ((sgs v (js.take i)).toArray ++ (sg ((v + (i : Int)).fmod 4) j).toArray).size ≤ 2000
      simp only [Array.size_append, List.size_toArray]
      omega
    · refine ⟨_, _, T₉, rfl, m1, m2, t₁₄, ?_⟩
      rw [sgt]
      show some (Value.str ⟨(sgs v (js.take i)).toArray ++ (sg ((v + (i : Int)).fmod 4) j).toArray⟩ t₁₄) = _
      rw [List.append_toArray]
  · rintro g m h₄ T₄ ⟨rfl, m1, m2, t', m3⟩
    rw [show js.take (tx js).cps.size = js from List.take_of_length_le (by simp [tx])] at m3
    obtain ⟨It, S⟩ := Src.str w ⟨(sgs v js).toArray⟩ t'
    refine s_cons (s_ret (c_me fun pl => e_str fun t₂ => g_join (w_bi (a_cons ?_))))
    refine e_comp (P := []) S (by show (sgs v js).toArray.size ≤ 1000; have := sgs_len v js; simp; omega) R.handled (fun i ys g' => Kp g g' ∧ ∃ zs, ys = sv zs ∧ zs.flatMap (·.1) = ((sgs v js).take i).flatMap dc) (nmL T₄ m3 ⟨rfl, g, T₄, ?_⟩) rfl (by decide) rfl (by decide)
    refine ⟨⟨fun _ _ e => e, [], rfl, rfl⟩, fun _ _ _ _ => trivial, fun i ys g₁ g₂ ⟨k, z⟩ k' => ⟨fun _ _ e => k' _ _ (k _ _ e), z⟩, ?_, ?_⟩
    · rintro i u C I o D' nD oL ys g₁ h₅ mc lt hys ⟨c, tc, hc, rfl⟩ T₅ ⟨kg, zs, rfl, hzs⟩
      have hc' : (sgs v js)[i]? = some c := by simpa using hc
      have sc : Sign c := sgs_sign hj c (List.mem_of_getElem? hc')
      have D₁ := D.kp kg
      refine a_name (gS T₅ fun h₆ T₆ => ts_one (t_not (t_val (c_fn (gK D₁ T₆ g_inb1 (w_fn D₁ (fun P => by kernel_rfl) (a_cons (gL T₆ rfl (a_nil ⟨T₆.kp, ?_⟩)))))))))
      refine b1_ (D₁.kp T₆.kp) (R.le (Nat.le_add_left _ _)) (fun h₇ k₇ => t_bool ?_)
      have T₇ := T₆.ext k₇
      rw [b1_sign _ sc]
      have tk1 : (sgs v js).take (i + 1) = (sgs v js).take i ++ [c] := by rw [List.take_add_one, hc']; rfl
      by_cases e : c = 173
      · rw [show decide (c = 173) = true from decide_eq_true e]
        refine ⟨g₁, _, T₇, kg, zs, rfl, ?_⟩
        rw [tk1, List.flatMap_append, hzs, e]
        simp [dc]
      · rw [show decide (c = 173) = false from decide_eq_false e]
        obtain ⟨bv, hb, hy⟩ := b3_sign w.params sc e
        refine c_fn (gK D₁ T₇ g_mapb3 (w_fn D₁ (fun P => by kernel_rfl) (a_cons (gL T₇ rfl (a_nil ⟨T₇.kp, ?_⟩)))))
        refine b3_ (D₁.kp T₇.kp) (R.le (Nat.le_add_left _ _)) hb hy (fun h₈ t₈ k₈ => ?_)
        refine ⟨g₁, _, T₇.ext k₈, kg, zs ++ [(dc c, t₈)], by simp [sv, mk], ?_⟩
        rw [tk1, List.flatMap_append, List.flatMap_append, hzs]
        simp
    · rintro D' nD ys g₁ h₅ T₅ ⟨kg, zs, rfl, hzs⟩ eD
      have full : (sgs v js).take (⟨(sgs v js).toArray⟩ : Str).cps.size = sgs v js := List.take_of_length_le (by simp)
      rw [full, sgs_dc hj] at hzs
      refine a_nil (c_join0 (T₅.kp _ _ eD) (by rw [hzs]; simp; omega) fun t₉ => ?_)
      rw [hzs]
      exact q _ _ (fun _ _ e => T₅.kp _ _ (kg _ _ e))
end
end Mine
end
noncomputable section
open PySem PySem.W PySem.Spec PySem.Calls PyProof.Rows
set_option maxRecDepth 100000
namespace Mine
section
variable {w : World} {r : Rst} {A : Around} {h : Heap} {Q : Value → Heap → Prop}
theorem keys_ {x d l : Addr} {hs : List (Nat × Bool)} (D : Wd w h) (B : Hdr w h x d l hs) (hz : hs.length ≤ 500) {k : Nat} (R : Room A (k + 3))
    (q : ∀ h' D' n zs, Kp h h' → h'.get? D' = some (listO (sv zs) n) → zs.map (·.1) = hs.map (fun p => [65 + p.1]) → Q (.ref D') h') : Wp w r A (call (.ref 284) [.ref x]) Q h := by
  refine callF D R (o := o284 w.params) (binds := [(s243, .ref x)]) (by kernel_rfl) rfl (by kernel_rfl) (fun tk => BindsTo.of_eq rfl) (by rfl) (fun L h₁ hL T R => ?_) (by decide) rfl rfl rfl
  obtain ⟨Ts, n, eL, pr⟩ := B.lst
  refine s_cons (s_ret ?_)
  refine e_comp (P := []) (Src.list w l (Ts.map .ref)) (by rw [List.length_map, Paired.length pr]; omega) R.handled (fun i ys g => Kp h g ∧ ∃ zs, ys = sv zs ∧ zs.map (·.1) = (hs.take i).map (fun p => [65 + p.1])) (e_attr (nmL T rfl (get_hdrs (D.kp T.kp) (B.kp T.kp) ⟨rfl, h, T, ?_⟩))) rfl (by decide) rfl (by decide)
  refine ⟨⟨fun _ _ e => e, [], rfl, rfl⟩, fun i ys g z => ⟨n, z.1 _ _ eL⟩, fun i ys g₁ g₂ ⟨k, z⟩ k' => ⟨fun _ _ e => k' _ _ (k _ _ e), z⟩, ?_, ?_⟩
  · rintro i u C I o D' nD oL ys g₁ h₅ mc lt hys hu T₅ ⟨kg, zs, rfl, hzs⟩
    simp only [List.getElem?_map, Option.map_eq_some_iff] at hu
    obtain ⟨Ti, hTi, rfl⟩ := hu
    obtain ⟨p, hp, ta, tb, eT⟩ := Paired.at pr hTi
    refine a_tup R.handled (T₅.kp _ _ (kg _ _ eT)) (fun h₆ k₆ => ?_) rfl rfl
    refine io_cons (a_name (gS (T₅.ext k₆) fun h₇ T₇ => io_cons (a_name (gS T₇ fun h₈ T₈ => io_nil (ts_nil ?_)))))
    refine gL T₈ rfl ⟨g₁, _, T₈, kg, zs ++ [([65 + p.1], ta)], by simp [sv]; rfl, ?_⟩
    rw [List.take_add_one, hp, List.map_append, hzs]
    simp
  · rintro D' nD ys g₁ h₅ T₅ ⟨kg, zs, rfl, hzs⟩ eD
    rw [List.length_map, Paired.length pr, List.take_length] at hzs
    exact q _ _ _ _ (fun _ _ e => T₅.kp _ _ (kg _ _ e)) (T₅.kp _ _ eD) hzs
end
theorem lowerOf_up : ∀ j, j < 8 → Unicode.lowerOf (65 + j) = [97 + j] := by
  intro j hj
  match j, hj with
  | 0, _ => kernel_rfl
  | 1, _ => kernel_rfl
  | 2, _ => kernel_rfl
  | 3, _ => kernel_rfl
  | 4, _ => kernel_rfl
  | 5, _ => kernel_rfl
  | 6, _ => kernel_rfl
  | 7, _ => kernel_rfl
theorem flat1 (l : List (List Nat)) : (l.map List.toArray).toArray.flatten = l.flatten.toArray := by
  simp
theorem low_ups (js : List Nat) (hj : ∀ j ∈ js, j < 8) : Txt.lower (mk (js.map (65 + ·))) = mk (js.map (97 + ·)) := by
  refine Str.ext' ?_
  show ((js.map (65 + ·)).toArray.mapIdx fun i _ => (Unicode.lowerAt (js.map (65 + ·)).toArray i).toArray).flatten = _
  have e : ((js.map (65 + ·)).toArray.mapIdx fun i _ => (Unicode.lowerAt (js.map (65 + ·)).toArray i).toArray) = ((js.map fun j => [97 + j]).map List.toArray).toArray := by
    refine Array.ext (by simp) fun i h1 h2 => ?_
    have hi : i < js.length := by simpa using h1
    have : (js.map (65 + ·)).toArray[i]? = some (65 + js[i]) := by simp [hi]
    have h8 := hj js[i] (List.getElem_mem _)
    simp only [Array.getElem_mapIdx, Unicode.lowerAt, this]
    have n : (65 + js[i] == 931) = false := by simp; omega
    rw [n, Bool.false_and, if_neg (by decide), lowerOf_up _ h8]
    simp
  rw [e, flat1]
  show _ = (js.map (97 + ·)).toArray
  congr 1
  clear e hj
  induction js with
  | nil => rfl
  | cons a l ih => rw [List.map_cons, List.flatten_cons, List.map_cons, ih]; rfl
end Mine
end
noncomputable section
namespace Pl
def mate (l : List Nat) (x : Nat) : Option Nat := match l.findIdx? (· == x) with
  | some i => l[i ^^^ 1]?
  | none => none
abbrev Hs := List (Nat × Bool)
def look (hs : Hs) (x : Nat) : Option Bool := (hs.find? fun p => p.1 == x).map (·.2)
def bodyP (pm qm : Nat → Option Nat) (hs : Hs) (pl : List (Bool × Nat)) (s : Bool) (l : Nat) : Option (Hs × List (Bool × Nat)) :=
  match look hs l with
  | some _ => some (hs, pl)
  | none => match pm l, qm l with
    | some a, some b => some (hs ++ [(l, s)], (!s, b) :: (!s, a) :: pl)
    | _, _ => none
def whileP (pm qm : Nat → Option Nat) : Nat → Hs → Nat → List (Bool × Nat) → Option (Hs × Nat)
  | _, hs, c, [] => some (hs, c)
  | 0, _, _, _ :: _ => none
  | f + 1, hs, c, (s, l) :: pl => match bodyP pm qm hs pl s l with
    | none => none
    | some (hs', pl') => whileP pm qm f hs' (c + 1) pl'
def forP (pm qm : Nat → Option Nat) : List Nat → Hs → Nat → Option (Hs × Nat)
  | [], hs, c => some (hs, c)
  | x :: row, hs, c => match whileP pm qm 40 hs c (match look hs x with | none => [(true, x)] | some _ => []) with
    | none => none
    | some (hs', c') => forP pm qm row hs' c'
def sidesP (row order : List Nat) : Option (Hs × Nat) := forP (mate row) (mate order) row [] 0
def ringP (pm qm : Nat → Option Nat) : Nat → List Nat → Nat → Option (List Nat)
  | 0, _, _ => none
  | f + 1, ring, line => if ring.contains line then some ring else match qm line with
    | none => none
    | some m => match pm m with
      | none => none
      | some l => ringP pm qm f (ring ++ [line, m]) l
def ringsF (pm qm : Nat → Option Nat) : List Nat → List (List Nat) → Option (List (List Nat))
  | [], rs => some rs
  | x :: row, rs => if rs.flatten.contains x then ringsF pm qm row rs else match ringP pm qm 10 [] x with
    | none => none
    | some r => ringsF pm qm row (rs ++ [r])
def ringsP (row order : List Nat) : Option (List (List Nat)) := ringsF (mate row) (mate order) row []
def evens {α : Type} : List α → List α
  | a :: _ :: r => a :: evens r
  | l => l
def pick (hs : Hs) (b : Bool) (l : List Nat) : List Nat := l.filter fun x => look hs x == some b
abbrev Entry := (List Nat × List Nat) × List Nat × Nat
def marksOf (hs : Hs) (l : List Nat) : List Bool := (evens l).map fun x => (look hs x).getD false
def setP : Nat → List Nat → List Nat → Option (List Bool × List Entry)
  | 0, row, order => some ([row == order], [])
  | f + 1, row, order => match sidesP row order with
    | none => none
    | some (hs, c) => match setP f (pick hs true row) (pick hs true order), setP f (pick hs false row) (pick hs false order) with
      | some (m1, l1), some (m2, l2) => some (marksOf hs row ++ m1 ++ m2 ++ marksOf hs order, ((row, order), hs.map (·.1), c) :: (l1 ++ l2))
      | _, _ => none
def pairsP (row : List Nat) (marks : List Bool) (half : Nat) : List (Nat × Nat) := (List.range half).map fun k => if marks.getD k false then (row.getD (2 * k) 0, row.getD (2 * k + 1) 0) else (row.getD (2 * k + 1) 0, row.getD (2 * k) 0)
def endsP : List Nat → List Nat → List Bool → List Nat
  | a :: u, b :: l, m :: ms => (if m then [a, b] else [b, a]) ++ endsP u l ms
  | _, _, _ => []
def runP : Nat → List Nat → List Bool → List Nat
  | 0, row, marks => if marks = [true] then row else row.reverse
  | f + 1, row, marks =>
    let half := row.length / 2
    let size := marks.length / 2 - half
    endsP (runP f ((pairsP row marks half).map (·.1)) ((marks.drop half).take size)) (runP f ((pairsP row marks half).map (·.2)) ((marks.drop (half + size)).take size)) (marks.drop (half + 2 * size))
def mlen : Nat → Nat
  | 0 => 1
  | f + 1 => 2 * 2 ^ (f + 1) + 2 * mlen f
abbrev Prs := List (Nat × Nat)
def gen : Nat → List Nat → List Prs
  | 0, _ => [[]]
  | _ + 1, [] => [[]]
  | f + 1, x :: rest => rest.flatMap fun y => (gen f (rest.erase y)).map fun ps => (x, y) :: (y, x) :: ps
def okPair (row : List Nat) (pm qm : Nat → Option Nat) : Bool := match forP pm qm row [] 0 with
  | none => false
  | some (hs, c) => (row.all fun x => match pm x, qm x, look hs x with
      | some a, some b, some s => look hs a == some (!s) && look hs b == some (!s)
      | _, _, _ => false)
    && (match row with | [] => false | x :: _ => look hs x == some true)
    && (hs.length == row.length && hs.all (fun p => decide (p.1 < 8)))
    && match ringsF pm qm row [] with
      | none => false
      | some rs => hs.map (·.1) == rs.flatten && c == 2 * rs.flatten.length + rs.length && rs.all (fun r => r.length ≤ 8) && rs.length ≤ 8
theorem ok8 : ((gen 4 (List.range 8)).all fun ps => okPair (List.range 8) (mate (List.range 8)) (fun x => ps.lookup x)) = true := by decide +kernel
def rows4 : List (List Nat) := [0, 1].flatMap fun a => [2, 3].flatMap fun b => [4, 5].flatMap fun c => [6, 7].map fun d => [a, b, c, d]
theorem ok4 : (rows4.all fun row => (gen 2 row).all fun ps => okPair row (mate row) (fun x => ps.lookup x)) = true := by decide +kernel
end Pl
end
noncomputable section
namespace Pl
theorem gen_has : ∀ (n : Nat) (l : List Nat), l.length = 2 * n → l.Nodup → ∀ f : Nat → Option Nat, (∀ x ∈ l, ∃ y ∈ l, y ≠ x ∧ f x = some y ∧ f y = some x) →
    ∃ ps ∈ gen n l, (∀ x ∈ l, ps.lookup x = f x) ∧ ∀ x, x ∉ l → ps.lookup x = none
  | 0, l, hl, _, f, _ => by
    have : l = [] := List.eq_nil_of_length_eq_zero (by omega)
    subst this
    exact ⟨[], by simp [gen], by simp, by simp⟩
  | n + 1, [], hl, _, f, _ => by simp at hl
  | n + 1, x :: rest, hl, hn, f, hf => by
    obtain ⟨y, hy, hyx, fx, fy⟩ := hf x (.head _)
    have hy' : y ∈ rest := by
      rcases List.mem_cons.mp hy with h | h
      · exact absurd h hyx
      · exact h
    have hxr : x ∉ rest := (List.nodup_cons.mp hn).1
    have hnr : rest.Nodup := (List.nodup_cons.mp hn).2
    have hle : (rest.erase y).length = 2 * n := by
      rw [List.length_erase_of_mem hy']
      simp at hl; omega
    obtain ⟨ps, hps, h1, h2⟩ := gen_has n (rest.erase y) hle (hnr.erase y) f (by
      intro z hz
      have hzr : z ∈ rest := List.mem_of_mem_erase hz
      have hzy : z ≠ y := by
        rintro rfl
        exact (List.Nodup.not_mem_erase hnr) hz
      have hzx : z ≠ x := by
        rintro rfl
        exact hxr hzr
      obtain ⟨z', hz', hne, a, b⟩ := hf z (.tail _ hzr)
      have n1 : z' ≠ x := by
        rintro rfl
        rw [fx] at b
        exact hzy (Option.some.inj b).symm
      have n2 : z' ≠ y := by
        rintro rfl
        rw [fy] at b
        exact hzx (Option.some.inj b).symm
      refine ⟨z', ?_, hne, a, b⟩
      rcases List.mem_cons.mp hz' with h | h
      · exact absurd h n1
      · exact (List.mem_erase_of_ne n2).mpr h)
    refine ⟨(x, y) :: (y, x) :: ps, ?_, ?_, ?_⟩
    · simp only [gen, List.mem_flatMap, List.mem_map]
      exact ⟨y, hy', ps, hps, rfl⟩
    · intro z hz
      by_cases e1 : z = x
      · subst e1; simp [List.lookup, fx]
      · by_cases e2 : z = y
        · subst e2; simp [List.lookup, beq_eq_false_iff_ne.mpr e1, fy]
        · have hz2 : z ∈ rest := by
            rcases List.mem_cons.mp hz with h | h
            · exact absurd h e1
            · exact h
          simp only [List.lookup, beq_eq_false_iff_ne.mpr e1, beq_eq_false_iff_ne.mpr e2]
          exact h1 z ((List.mem_erase_of_ne e2).mpr hz2)
    · intro z hz
      have e1 : z ≠ x := fun e => hz (by simp [e])
      have e2 : z ≠ y := fun e => hz (by simp [e, hy'])
      simp only [List.lookup, beq_eq_false_iff_ne.mpr e1, beq_eq_false_iff_ne.mpr e2]
      exact h2 z (fun h => hz (.tail _ (List.mem_of_mem_erase h)))
theorem nd_inj {l : List Nat} (hn : l.Nodup) {i j : Nat} (hi : i < l.length) (hj : j < l.length) (e : l[i] = l[j]) : i = j := by
  have h := List.pairwise_iff_getElem.mp hn
  rcases Nat.lt_trichotomy i j with z | z | z
  · exact absurd e (h i j hi hj z)
  · exact z
  · exact absurd e.symm (h j i hj hi z)
theorem idx_at {l : List Nat} (hn : l.Nodup) {i : Nat} (hi : i < l.length) : l.findIdx? (· == l[i]) = some i := by
  rw [List.findIdx?_eq_some_iff_getElem]
  refine ⟨hi, by simp, fun j hj => ?_⟩
  simp only [beq_iff_eq]
  intro e
  have := nd_inj hn (by omega) hi e
  omega
theorem mate_at {l : List Nat} (hn : l.Nodup) {i : Nat} (hi : i < l.length) : mate l l[i] = l[i ^^^ 1]? := by
  unfold mate; rw [idx_at hn hi]
theorem mate_out {l : List Nat} {x : Nat} (h : x ∉ l) : mate l x = none := by
  unfold mate
  have : l.findIdx? (· == x) = none := by
    rw [List.findIdx?_eq_none_iff]
    intro y hy
    simp only [beq_eq_false_iff_ne]
    rintro rfl
    exact h hy
  rw [this]
theorem xor1 {n i : Nat} (hn : n < 5) (hi : i < 2 * n) : i ^^^ 1 ≠ i ∧ (i ^^^ 1) ^^^ 1 = i ∧ i ^^^ 1 < 2 * n := by
  have : ∀ n < 5, ∀ i < 10, i < 2 * n → i ^^^ 1 ≠ i ∧ (i ^^^ 1) ^^^ 1 = i ∧ i ^^^ 1 < 2 * n := by decide
  exact this n hn i (by omega) hi
theorem mate_inv {l : List Nat} (hn : l.Nodup) {n : Nat} (h5 : n < 5) (hl : l.length = 2 * n) : ∀ x ∈ l, ∃ y ∈ l, y ≠ x ∧ mate l x = some y ∧ mate l y = some x := by
  intro x hx
  obtain ⟨i, hi, rfl⟩ := List.mem_iff_getElem.mp hx
  obtain ⟨x1, x2, x3⟩ := xor1 h5 (by omega : i < 2 * n)
  have hi' : i ^^^ 1 < l.length := by rw [hl]; exact x3
  refine ⟨l[i ^^^ 1], List.getElem_mem _, ?_, ?_, ?_⟩
  · intro e
    exact x1 (nd_inj hn hi' hi e)
  · rw [mate_at hn hi]; exact List.getElem?_eq_getElem hi'
  · rw [mate_at hn hi', x2]; exact List.getElem?_eq_getElem hi
theorem mate_gen {l row : List Nat} (hn : row.Nodup) {n : Nat} (h5 : n < 5) (hl : row.length = 2 * n) (hp : l.Perm row) : ∃ ps ∈ gen n row, mate l = fun x => ps.lookup x := by
  have hn' : l.Nodup := hp.nodup_iff.mpr hn
  obtain ⟨ps, h, h1, h2⟩ := gen_has n row hl hn (mate l) (fun x hx => by
    obtain ⟨y, a, b⟩ := mate_inv hn' h5 (hp.length_eq.trans hl) x (hp.mem_iff.mpr hx)
    exact ⟨y, hp.mem_iff.mp a, b⟩)
  refine ⟨ps, h, funext fun x => ?_⟩
  by_cases hx : x ∈ row
  · exact (h1 x hx).symm
  · rw [h2 x hx]; exact mate_out fun h => hx (hp.mem_iff.mp h)
structure Good (row order : List Nat) (hs : Hs) (c : Nat) (rs : List (List Nat)) : Prop where
  sides : sidesP row order = some (hs, c)
  rings : ringsP row order = some rs
  opp : ∀ x ∈ row, ∃ s a b, look hs x = some s ∧ mate row x = some a ∧ mate order x = some b ∧ look hs a = some (!s) ∧ look hs b = some (!s)
  first : ∀ x, row.head? = some x → look hs x = some true
  came : hs.map (·.1) = rs.flatten
  cnt : c = 2 * rs.flatten.length + rs.length
  len : hs.length = row.length
  keys : ∀ p ∈ hs, p.1 < 8
  rl : ∀ r ∈ rs, r.length ≤ 8
  rn : rs.length ≤ 8
theorem good_of {row order : List Nat} (h : okPair row (mate row) (mate order) = true) : ∃ hs c rs, Good row order hs c rs := by
  unfold okPair at h
  split at h
  · cases h
  · rename_i hs c e1
    simp only [Bool.and_eq_true] at h
    obtain ⟨⟨⟨h1, h2⟩, h3⟩, h4⟩ := h
    split at h4
    · cases h4
    · rename_i rs e2
      simp only [Bool.and_eq_true, beq_iff_eq, decide_eq_true_eq, List.all_eq_true] at h4
      refine ⟨hs, c, rs, e1, e2, fun x hx => ?_, fun x hx => ?_, h4.1.1.1, h4.1.1.2, by simpa using h3.1, fun p hp => of_decide_eq_true (List.all_eq_true.mp h3.2 p hp), h4.1.2, h4.2⟩
      · have := List.all_eq_true.mp h1 x hx
        split at this
        · rename_i a b s ea eb es
          simp only [Bool.and_eq_true, beq_iff_eq] at this
          exact ⟨s, a, b, es, ea, eb, this.1, this.2⟩
        · cases this
      · cases row with
        | nil => simp at hx
        | cons y r =>
          simp at hx; subst hx
          simpa using h2
theorem good8 {order : List Nat} (hp : order.Perm (List.range 8)) : ∃ hs c rs, Good (List.range 8) order hs c rs := by
  obtain ⟨ps, h, e⟩ := mate_gen (n := 4) (by decide) (by decide) rfl hp
  exact good_of (by rw [e]; exact List.all_eq_true.mp ok8 ps h)
theorem good4 {row order : List Nat} (hr : row ∈ rows4) (hp : order.Perm row) : ∃ hs c rs, Good row order hs c rs := by
  have h4 := List.all_eq_true.mp ok4 row hr
  have hr' : row.Nodup ∧ row.length = 2 * 2 := by
    have : (rows4.all fun r => decide (r.Nodup) && r.length == 4) = true := by decide
    have := List.all_eq_true.mp this row hr
    simpa using this
  obtain ⟨ps, h, e⟩ := mate_gen (n := 2) hr'.1 (by decide) hr'.2 hp
  exact good_of (by rw [e]; exact List.all_eq_true.mp h4 ps h)
end Pl
end
noncomputable section
namespace Pl
inductive Opp (hs : Hs) : List Nat → Prop
  | nil : Opp hs []
  | cons {a b : Nat} {r : List Nat} {s : Bool} : look hs a = some s → look hs b = some (!s) → Opp hs r → Opp hs (a :: b :: r)
theorem opp_of {hs : Hs} : ∀ (n : Nat) (l : List Nat), l.length = 2 * n → (∀ i, i < n → ∃ s, (l[2 * i]?.bind (look hs)) = some s ∧ (l[2 * i + 1]?.bind (look hs)) = some (!s)) → Opp hs l
  | 0, l, hl, _ => by
    have : l = [] := List.eq_nil_of_length_eq_zero (by omega)
    subst this; exact .nil
  | n + 1, [], hl, _ => by simp at hl
  | n + 1, [a], hl, _ => by simp at hl; omega
  | n + 1, a :: b :: r, hl, h => by
    obtain ⟨s, h1, h2⟩ := h 0 (by omega)
    refine .cons (s := s) (by simpa using h1) (by simpa using h2) (opp_of n r (by simp at hl; omega) fun i hi => ?_)
    obtain ⟨s, h1, h2⟩ := h (i + 1) (by omega)
    refine ⟨s, ?_, ?_⟩
    · rw [show 2 * (i + 1) = 2 * i + 1 + 1 by omega] at h1; simpa using h1
    · rw [show 2 * (i + 1) + 1 = 2 * i + 1 + 1 + 1 by omega] at h2; simpa using h2
theorem opp_mate {l : List Nat} {hs : Hs} (hn : l.Nodup) {n : Nat} (h5 : n < 5) (hl : l.length = 2 * n) (h : ∀ x ∈ l, ∃ s b, look hs x = some s ∧ mate l x = some b ∧ look hs b = some (!s)) : Opp hs l := by
  refine opp_of n l hl fun i hi => ?_
  have i1 : 2 * i < l.length := by omega
  have i2 : 2 * i + 1 < l.length := by omega
  obtain ⟨s, b, e1, e2, e3⟩ := h l[2 * i] (List.getElem_mem _)
  have x : ∀ i < 5, (2 * i) ^^^ 1 = 2 * i + 1 := by decide
  rw [mate_at hn i1, x i (by omega), List.getElem?_eq_getElem i2] at e2
  cases e2
  exact ⟨s, by rw [List.getElem?_eq_getElem i1]; exact e1, by rw [List.getElem?_eq_getElem i2]; exact e3⟩
theorem ends_ok {hs : Hs} {l : List Nat} (h : Opp hs l) : endsP (pick hs true l) (pick hs false l) (marksOf hs l) = l := by
  induction h with
  | nil => rfl
  | @cons a b r s ha hb _ ih =>
    have e1 : marksOf hs (a :: b :: r) = s :: marksOf hs r := by simp [marksOf, evens, ha]
    rw [e1]
    cases s
    · have e2 : pick hs true (a :: b :: r) = b :: pick hs true r := by simp [pick, ha, hb]
      have e3 : pick hs false (a :: b :: r) = a :: pick hs false r := by simp [pick, ha, hb]
      rw [e2, e3, endsP, ih]; rfl
    · have e2 : pick hs true (a :: b :: r) = a :: pick hs true r := by simp [pick, ha, hb]
      have e3 : pick hs false (a :: b :: r) = b :: pick hs false r := by simp [pick, ha, hb]
      rw [e2, e3, endsP, ih]; rfl
theorem pairs_cons (a b : Nat) (r : List Nat) (m : Bool) (ms : List Bool) (n : Nat) : pairsP (a :: b :: r) (m :: ms) (n + 1) = (if m then (a, b) else (b, a)) :: pairsP r ms n := by
  unfold pairsP
  rw [List.range_succ_eq_map, List.map_cons, List.map_map]
  congr 1
theorem pairs_ok {hs : Hs} {l : List Nat} (h : Opp hs l) : ∀ (rest : List Bool), (pairsP l (marksOf hs l ++ rest) (l.length / 2)).map (·.1) = pick hs true l ∧ (pairsP l (marksOf hs l ++ rest) (l.length / 2)).map (·.2) = pick hs false l := by
  induction h with
  | nil => intro rest; exact ⟨rfl, rfl⟩
  | @cons a b r s ha hb _ ih =>
    intro rest
    have e1 : marksOf hs (a :: b :: r) = s :: marksOf hs r := by simp [marksOf, evens, ha]
    have e0 : (a :: b :: r).length / 2 = r.length / 2 + 1 := by simp only [List.length_cons]; omega
    rw [e1, e0, List.cons_append, pairs_cons]
    obtain ⟨i1, i2⟩ := ih rest
    cases s
    · have e2 : pick hs true (a :: b :: r) = b :: pick hs true r := by simp [pick, ha, hb]
      have e3 : pick hs false (a :: b :: r) = a :: pick hs false r := by simp [pick, ha, hb]
      rw [e2, e3, List.map_cons, List.map_cons, i1, i2]; exact ⟨rfl, rfl⟩
    · have e2 : pick hs true (a :: b :: r) = a :: pick hs true r := by simp [pick, ha, hb]
      have e3 : pick hs false (a :: b :: r) = b :: pick hs false r := by simp [pick, ha, hb]
      rw [e2, e3, List.map_cons, List.map_cons, i1, i2]; exact ⟨rfl, rfl⟩
theorem marks_len {hs : Hs} {l : List Nat} (h : Opp hs l) : (marksOf hs l).length = l.length / 2 := by
  induction h with
  | nil => rfl
  | @cons a b r s ha hb _ ih =>
    have e1 : marksOf hs (a :: b :: r) = s :: marksOf hs r := by simp [marksOf, evens, ha]
    rw [e1, List.length_cons, ih]; simp only [List.length_cons]; omega
theorem pick_len {hs : Hs} {l : List Nat} (b : Bool) (h : Opp hs l) : (pick hs b l).length = l.length / 2 := by
  induction h with
  | nil => rfl
  | @cons x y r s ha hb _ ih =>
    have : pick hs b (x :: y :: r) = (if s = b then x else y) :: pick hs b r := by cases b <;> cases s <;> simp [pick, ha, hb]
    rw [this, List.length_cons, ih]; simp only [List.length_cons]; omega
theorem run_step {f : Nat} {hs : Hs} {row order : List Nat} {m1 m2 : List Bool} (h1 : Opp hs row) (h2 : Opp hs order) (hl : row.length = 2 ^ (f + 2)) (ho : order.length = 2 ^ (f + 2)) (l1 : m1.length = mlen f) (l2 : m2.length = mlen f)
    (r1 : runP f (pick hs true row) m1 = pick hs true order) (r2 : runP f (pick hs false row) m2 = pick hs false order) :
    runP (f + 1) row (marksOf hs row ++ m1 ++ m2 ++ marksOf hs order) = order ∧ (marksOf hs row ++ m1 ++ m2 ++ marksOf hs order).length = mlen (f + 1) := by
  have a1 := marks_len h1
  have a2 := marks_len h2
  have p : 2 ^ (f + 2) = 2 * 2 ^ (f + 1) := by rw [Nat.pow_succ]; omega
  have hh : row.length / 2 = 2 ^ (f + 1) := by rw [hl, p]; omega
  have ho' : order.length / 2 = 2 ^ (f + 1) := by rw [ho, p]; omega
  rw [hh] at a1
  rw [ho'] at a2
  have tot : (marksOf hs row ++ m1 ++ m2 ++ marksOf hs order).length = mlen (f + 1) := by
    simp only [List.length_append, a1, a2, l1, l2, mlen]; omega
  refine ⟨?_, tot⟩
  unfold runP
  have sz : (marksOf hs row ++ m1 ++ m2 ++ marksOf hs order).length / 2 - row.length / 2 = mlen f := by rw [tot, hh, mlen]; omega
  dsimp only
  rw [sz, hh]
  have pp := pairs_ok h1 (m1 ++ m2 ++ marksOf hs order)
  rw [hh] at pp
  rw [show marksOf hs row ++ m1 ++ m2 ++ marksOf hs order = marksOf hs row ++ (m1 ++ m2 ++ marksOf hs order) by simp only [List.append_assoc]]
  rw [pp.1, pp.2]
  have d1 : (marksOf hs row ++ (m1 ++ m2 ++ marksOf hs order)).drop (2 ^ (f + 1)) = m1 ++ m2 ++ marksOf hs order := by rw [← a1]; exact List.drop_left
  have d2 : (marksOf hs row ++ (m1 ++ m2 ++ marksOf hs order)).drop (2 ^ (f + 1) + mlen f) = m2 ++ marksOf hs order := by
    rw [← List.drop_drop, d1, ← l1, List.append_assoc]; exact List.drop_left
  have d3 : (marksOf hs row ++ (m1 ++ m2 ++ marksOf hs order)).drop (2 ^ (f + 1) + 2 * mlen f) = marksOf hs order := by
    rw [show 2 ^ (f + 1) + 2 * mlen f = 2 ^ (f + 1) + mlen f + mlen f by omega, ← List.drop_drop, d2]
    rw (occs := .pos [1]) [← l2]
    exact List.drop_left
  rw [d1, d2, d3]
  have t1 : (m1 ++ m2 ++ marksOf hs order).take (mlen f) = m1 := by rw [← l1, List.append_assoc]; exact List.take_left
  have t2 : (m2 ++ marksOf hs order).take (mlen f) = m2 := by rw [← l2]; exact List.take_left
  rw [t1, t2, r1, r2, ends_ok h2]
theorem Good.oppR {row order : List Nat} {hs : Hs} {c : Nat} {rs : List (List Nat)} (G : Good row order hs c rs) (hn : row.Nodup) {n : Nat} (h5 : n < 5) (hl : row.length = 2 * n) : Opp hs row :=
  opp_mate hn h5 hl fun x hx => by
    obtain ⟨s, a, b, h1, h2, h3, h4, h5⟩ := G.opp x hx
    exact ⟨s, a, h1, h2, h4⟩
theorem Good.oppO {row order : List Nat} {hs : Hs} {c : Nat} {rs : List (List Nat)} (G : Good row order hs c rs) (hn : row.Nodup) {n : Nat} (h5 : n < 5) (hl : row.length = 2 * n) (hp : order.Perm row) : Opp hs order :=
  opp_mate (hp.nodup_iff.mpr hn) h5 (hp.length_eq.trans hl) fun x hx => by
    obtain ⟨s, a, b, h1, h2, h3, h4, h5⟩ := G.opp x (hp.mem_iff.mp hx)
    exact ⟨s, b, h1, h3, h5⟩
inductive SetW : Nat → List Nat → List Nat → List Bool → List Entry → Prop
  | leaf {row order : List Nat} : row.length = 2 → order.length = 2 → SetW 0 row order [row == order] []
  | node {f : Nat} {row order : List Nat} {hs : Hs} {c : Nat} {m1 m2 : List Bool} {l1 l2 : List Entry} : row.length = 2 ^ (f + 2) → order.length = 2 ^ (f + 2) → sidesP row order = some (hs, c) → hs.length ≤ 8 → c ≤ 100 →
      (∀ x ∈ row, ∃ s, look hs x = some s) → (∀ x ∈ order, ∃ s, look hs x = some s) → m1.length = mlen f → m2.length = mlen f → SetW f (pick hs true row) (pick hs true order) m1 l1 → SetW f (pick hs false row) (pick hs false order) m2 l2 →
      SetW (f + 1) row order (marksOf hs row ++ m1 ++ m2 ++ marksOf hs order) (((row, order), hs.map (·.1), c) :: (l1 ++ l2))
structure SetOk (f : Nat) (row order : List Nat) (marks : List Bool) (log : List Entry) : Prop where
  set : SetW f row order marks log
  run : runP f row marks = order
  len : marks.length = mlen f
  each : ∀ e ∈ log, ∃ hs rs, Good e.1.1 e.1.2 hs e.2.2 rs ∧ e.2.1 = hs.map (·.1) ∧ (∀ x ∈ e.1.1, x < 8) ∧ e.1.1.Nodup ∧ e.1.2.Perm e.1.1 ∧ ∃ n, n < 5 ∧ e.1.1.length = 2 * n
  few : log.length ≤ 3
  first : 0 < f → marks.head? = some true
theorem set0 {row order : List Nat} (hl : row.length = 2) (hn : row.Nodup) (hp : order.Perm row) : ∃ marks, SetOk 0 row order marks [] := by
  match row, hl with
  | [a, b], _ =>
    have hl' : order.length = 2 := hp.length_eq
    match order, hl' with
    | [c, d], _ =>
      refine ⟨[[a, b] == [c, d]], .leaf rfl rfl, ?_, rfl, by simp, by simp, by simp⟩
      have nd : a ≠ b := by simpa using hn
      have hc : c = a ∨ c = b := by simpa using hp.mem_iff (a := c)
      have hd : d = a ∨ d = b := by simpa using hp.mem_iff (a := d)
      have hn' : [c, d].Nodup := hp.nodup_iff.mpr hn
      have nd' : c ≠ d := by simpa using hn'
      by_cases e : c = a
      · have e2 : d = b := by
          rcases hd with h | h
          · exact absurd (e.trans h.symm) nd'
          · exact h
        subst e e2
        simp [runP]
      · have e1 : c = b := hc.resolve_left e
        have e2 : d = a := by
          rcases hd with h | h
          · exact h
          · exact absurd (e1.trans h.symm) nd'
        subst e1 e2
        have : ([d, c] == [c, d]) = false := by simp [nd]
        rw [this]
        simp [runP]
theorem pick_perm {hs : Hs} {b : Bool} {l l' : List Nat} (h : l.Perm l') : (pick hs b l).Perm (pick hs b l') := List.Perm.filter _ h
theorem set_succ {f : Nat} {row order : List Nat} {hs : Hs} {c : Nat} {rs : List (List Nat)} (G : Good row order hs c rs) (hn : row.Nodup) {n : Nat} (h5 : n < 5) (hl : row.length = 2 * n) (hf : row.length = 2 ^ (f + 2)) (hp : order.Perm row) (h8 : ∀ x ∈ row, x < 8)
    {m1 m2 : List Bool} {l1 l2 : List Entry} (S1 : SetOk f (pick hs true row) (pick hs true order) m1 l1) (S2 : SetOk f (pick hs false row) (pick hs false order) m2 l2) (hlog : l1.length + l2.length ≤ 2) :
    ∃ log, SetOk (f + 1) row order (marksOf hs row ++ m1 ++ m2 ++ marksOf hs order) log ∧ log.length = 1 + l1.length + l2.length := by
  have o1 := G.oppR hn h5 hl
  have o2 := G.oppO hn h5 hl hp
  obtain ⟨r1, r2⟩ := run_step o1 o2 hf (hp.length_eq.trans hf) S1.len S2.len S1.run S2.run
  refine ⟨((row, order), hs.map (·.1), c) :: (l1 ++ l2), ⟨?_, r1, r2, ?_, ?_, ?_⟩, ?_⟩
  · have hs8 : hs.length ≤ 8 := by rw [G.len]; omega
    have c8 : c ≤ 100 := by
      have h1 := congrArg List.length G.came
      rw [List.length_map] at h1
      have h2 := G.cnt
      have h3 := G.rn
      omega
    have lk : ∀ x ∈ row, ∃ s, look hs x = some s := fun x hx => let ⟨s, _, _, e, _⟩ := G.opp x hx; ⟨s, e⟩
    exact .node hf (hp.length_eq.trans hf) G.sides hs8 c8 lk (fun x hx => lk x (hp.mem_iff.mp hx)) S1.len S2.len S1.set S2.set
  · intro e he
    rcases List.mem_cons.mp he with rfl | he
    · exact ⟨hs, rs, G, rfl, h8, hn, hp, n, h5, hl⟩
    · rcases List.mem_append.mp he with h | h
      · exact S1.each e h
      · exact S2.each e h
  · simp only [List.length_cons, List.length_append]; omega
  · intro _
    cases o1 with
    | nil =>
      rw [List.length_nil] at hf
      have : 0 < 2 ^ (f + 2) := Nat.pow_pos (by decide)
      omega
    | @cons a b r s ha hb _ =>
      have := G.first a rfl
      rw [ha] at this
      cases this
      simp [marksOf, evens, ha]
  · simp only [List.length_cons, List.length_append]; omega
theorem set4 {row order : List Nat} (hr : row ∈ rows4) (hp : order.Perm row) : ∃ marks log, SetOk 1 row order marks log ∧ log.length = 1 := by
  obtain ⟨hs, c, rs, G⟩ := good4 hr hp
  have hr' : row.Nodup ∧ row.length = 2 * 2 ∧ ∀ x ∈ row, x < 8 := by
    have : (rows4.all fun r => decide (r.Nodup) && (r.length == 4 && r.all fun x => decide (x < 8))) = true := by decide
    have := List.all_eq_true.mp this row hr
    simpa using this
  have o1 := G.oppR hr'.1 (by decide) hr'.2.1
  have s := fun b => set0 (row := pick hs b row) (order := pick hs b order) (by rw [pick_len b o1, hr'.2.1]) (hr'.1.filter _) (pick_perm hp)
  obtain ⟨m1, S1⟩ := s true
  obtain ⟨m2, S2⟩ := s false
  obtain ⟨log, S, n⟩ := set_succ G hr'.1 (by decide) hr'.2.1 hr'.2.1 hp hr'.2.2 S1 S2 (by simp)
  exact ⟨_, log, S, n⟩
theorem pick_rows {hs : Hs} (b : Bool) (h : Opp hs (List.range 8)) : pick hs b (List.range 8) ∈ rows4 := by
  have e : List.range 8 = [0, 1, 2, 3, 4, 5, 6, 7] := by decide
  rw [e] at h ⊢
  cases h with | cons a1 a2 h =>
  cases h with | cons a3 a4 h =>
  cases h with | cons a5 a6 h =>
  cases h with | cons a7 a8 h =>
  rename_i s1 s2 s3 s4
  unfold pick
  simp only [List.filter, a1, a2, a3, a4, a5, a6, a7, a8]
  cases b <;> cases s1 <;> cases s2 <;> cases s3 <;> cases s4 <;> decide
theorem set8 {order : List Nat} (hp : order.Perm (List.range 8)) : ∃ marks log, SetOk 2 (List.range 8) order marks log ∧ marks.length = 20 ∧ marks[0]? = some true ∧ marks[4]? = some true ∧ marks[10]? = some true ∧ log.length = 3 := by
  obtain ⟨hs, c, rs, G⟩ := good8 hp
  have hn : (List.range 8).Nodup := by decide
  have o1 := G.oppR hn (n := 4) (by decide) rfl
  obtain ⟨m1, l1, S1, n1⟩ := set4 (pick_rows true o1) (pick_perm hp)
  obtain ⟨m2, l2, S2, n2⟩ := set4 (pick_rows false o1) (pick_perm hp)
  obtain ⟨log, S, n⟩ := set_succ (f := 1) G hn (n := 4) (by decide) rfl rfl hp (by decide) S1 S2 (by omega)
  have k1 := marks_len o1
  rw [List.length_range] at k1
  have f1 := S1.first (by decide)
  have f2 := S2.first (by decide)
  have q1 : m1.length = 6 := S1.len
  have q2 : m2.length = 6 := S2.len
  rw [List.head?_eq_getElem?] at f1 f2
  have f0 := S.first (by decide)
  rw [List.head?_eq_getElem?] at f0
  refine ⟨_, log, S, S.len.trans (by decide), f0, ?_, ?_, by omega⟩
  · rw [List.append_assoc, List.append_assoc, List.getElem?_append_right (by omega), k1, List.getElem?_append_left (by omega)]; exact f1
  · rw [List.append_assoc, List.append_assoc, List.getElem?_append_right (by omega), k1, List.getElem?_append_right (by omega), q1, List.getElem?_append_left (by omega)]; exact f2
end Pl
end
noncomputable section
open PySem PySem.W PySem.Spec PySem.Calls PyProof.Rows
set_option maxRecDepth 100000
namespace Mine
open Pl
theorem tx_at (js : List Nat) (i : Nat) : (tx js).cps[i]? = (js[i]?).map (97 + ·) := by simp [tx]
theorem occ_lo {js : List Nat} {j i : Nat} (h : js.findIdx? (· == j) = some i) : ∃ rest, Builtin.Str.occurrences (tx js) (lo j) 0 (tx js).length 1 = i :: rest := by
  obtain ⟨hi, e, ne⟩ := List.findIdx?_eq_some_iff_getElem.mp h
  have e : js[i] = j := by simpa using e
  rcases StrLaws.occ_head (tx js) (lo j) 1 (Nat.le_refl 1) with ⟨_, hn⟩ | ⟨k, rest, h0, hk, hn⟩
  · exact absurd ((StrLaws.subAt_one (tx js) (97 + j) i).mpr (by simp [tx, hi, e])) (hn i)
  · have hk' := (StrLaws.subAt_one (tx js) (97 + j) k).mp hk
    have hk2 : ∃ y, js[k]? = some y ∧ 97 + y = 97 + j := by simpa [tx] using hk'
    obtain ⟨y, hy, ey⟩ := hk2
    have hyj : y = j := by omega
    subst hyj
    obtain ⟨hk3, ek⟩ := List.getElem?_eq_some_iff.mp hy
    rcases Nat.lt_trichotomy i k with z | z | z
    · exact absurd ((StrLaws.subAt_one (tx js) (97 + y) i).mpr (by simp [tx, hi, e])) (hn i z)
    · subst z; exact ⟨rest, h0⟩
    · have := ne k z
      simp [ek] at this
theorem xor_at : ∀ i : Nat, i < 8 → Builtin.bitXor (i : Int) 1 = ((i ^^^ 1 : Nat) : Int) := by decide
section
variable {w : World} {r : Rst} {A : Around} {h : Heap} {env : Env} {Q : Value → Heap → Prop}
theorem c_index {js : List Nat} {j i : Nat} {t u : Tok} (e : js.findIdx? (· == j) = some i) (q : ∀ t', Q (.int i t') h) : Wp w r A (call (.builtin "str.index") [.str (tx js) t, .str (lo j) u]) Q h := by
  obtain ⟨rest, ho⟩ := occ_lo e
  exact ⟨fun E tk => SC.index (s := stt r h tk) ho ⟨h, tk + 1, rfl, q _⟩⟩
theorem o_xori {a b : Int} {t u : Tok} (q : ∀ t', Q (.int (Builtin.bitXor a b) t') h) : Wp w r A (binaryOp .BitXor (.int a t) (.int b u)) Q h := ⟨fun _ tk => PyProof.Rows.xor_int (s := stt r h tk) ⟨h, tk + 1, rfl, q _⟩⟩
theorem o_iaddi {a b : Int} {t u : Tok} (q : ∀ t', Q (.int (a + b) t') h) : Wp w r A (inplaceOp .Add (.int a t) (.int b u)) Q h := ⟨fun _ tk => PySem.P.iadd_int (s := stt r h tk) ⟨h, tk + 1, rfl, q _⟩⟩
theorem sub_str {value slice : Expr} {x : Str} {t : Tok} {k : Nat} {u : Tok} {c : Nat} (hk : k < 1000) (hx : x.cps[k]? = some c) (q : ∀ t', Q (.str ⟨#[c]⟩ t') h)
    (hs : subscripted slice false (.str x t) (.int k u) = operate [.str x t, .int k u] (getItem (.str x t) (.int k u)) := by with_unfolding_all rfl)
    (ht : ∀ r, letTemporaryGo value (.str x t) r = Pure.pure () := by intro _; with_unfolding_all rfl) : Wp w r A (subscriptTail value slice (.str x t) (.int k u)) Q h := by
  have hl : k < x.length := (Array.getElem?_eq_some_iff.mp hx).1
  have e : Txt.item x (k : Int) = ⟨#[c]⟩ := by
    unfold Txt.item Txt.charAt seqIndex?
    have h1 : ¬ ((k : Int) < 0) := by omega
    simp only [h1, if_false, decide_false]
    rw [if_pos (by simp; exact hl)]
    simp [hx]
  exact ⟨fun E tk => item_str (s := stt r h tk) (by unfold fitsSsize; simp; omega) (by omega) (by omega) (fun _ => by rw [e]; exact ⟨h, tk + 1, rfl, q _⟩) hs ht⟩
theorem e_dict {keys : List (Option Expr)} {values : List Expr} {pos : Pos} (hall : keys.all (·.isSome) = true) (hl : keys.length = values.length) (h0 : keys ≠ []) (hlen : keys.length ≤ 15)
    (p : ∀ h₀, Kp h h₀ → Wp w r A (evalPairs (pairTrees keys values env pos)) (fun vs h₁ => ∃ kvs, Carries (strKind PW w) vs kvs ∧ Kp h₀ h₁ ∧ ∀ d h', Kp h h' → h.get? d = none → h'.DictOf (strKind PW w) d (merged [] kvs) → Q (.ref d) h') h₀) : Wp w r A (eval (.Dict keys values pos) env) Q h := by
  refine ⟨fun E tk => wpAny_Dict_walk (knd := strKind PW w) (s := stt r h tk) hall hl h0 hlen ((p (h.push { cls := .type "dict", data := .dict #[] }) (kpush _ _)).into (tk := tk) fun vs h₁ tk₁ z => ?_)⟩
  obtain ⟨kvs, c, k, q⟩ := z
  have e0 : (h.push emptyDict).get? h.objs.size = some emptyDict := Heap.get?_push_size _ rfl
  have nd : h.get? h.objs.size = none := fresh_none fun _ _ e => e
  refine ⟨kvs, c, ⟨_, #[], 0, k _ _ e0, ⟨rfl, rfl, rfl⟩, rfl, (by intro e he; simp at he), .nil, List.nodup_nil⟩, fun h' hd hs => ⟨h', _, rfl, q _ h' (fun b o e => ?_) nd hd⟩⟩
  have hb : b ≠ h.objs.size := by rintro rfl; rw [nd] at e; cases e
  exact (hs.2 b hb).trans (k _ _ (kpush _ _ _ _ e))
theorem pt_nil {pos : Pos} {Q : List (Value × Value) → Heap → Prop} (q : Q [] h) : Wp w r A (evalPairs (pairTrees [] [] env pos)) Q h := ⟨fun _ tk => pairTrees_nil_walk ⟨h, tk, rfl, q⟩⟩
theorem pt_cons {k v : Expr} {ks : List (Option Expr)} {vs : List Expr} {pos : Pos} {Q : List (Value × Value) → Heap → Prop}
    (p : Wp w r A (eval k env) (fun kv h₁ => Wp w r A (eval v env) (fun vv h₂ => Wp w r A (evalPairs (pairTrees ks vs env pos)) (fun l h₃ => Q ((kv, vv) :: l) h₃) h₂) h₁) h) : Wp w r A (evalPairs (pairTrees (some k :: ks) (v :: vs) env pos)) Q h :=
  ⟨fun E tk => pairTrees_cons_walk (p.into fun _ _ _ p => p.into fun _ _ _ p => p.into fun _ h' tk' q => ⟨h', tk', rfl, q⟩)⟩
theorem sub_dict {value slice : Expr} {d : Addr} {kvs : List (Str × Value)} {x : Str} {t : Tok} {v : Value} (e : h.DictOf (strKind PW w) d kvs) (hv : valueAt kvs x = some v) (q : Q v h)
    (hs : subscripted slice false (.ref d) (.str x t) = operate [.ref d, .str x t] (getItem (.ref d) (.str x t)) := by with_unfolding_all rfl) : Wp w r A (subscriptTail value slice (.ref d) (.str x t)) Q h := by
  exact ⟨fun E tk => subscriptTail_builtinR (s := stt r h tk) (o := .ref d) (x := v) e.typeIs PySem.F.slot_dict_getitem.lookup (wpAny_getItem_of (knd := strKind PW w) (strKind_is _ _ _ _) e.mapOf hv ⟨rfl, h, tk + 1, rfl, q⟩) hs⟩
end
end Mine
end
noncomputable section
open PySem PySem.W PySem.Spec PySem.Calls PyProof.Rows
set_option maxRecDepth 100000
set_option autoImplicit false
namespace Mine
open Pl
theorem s_while {w : World} {r : Rst} {A : Around} {h : Heap} {env : Env} {g : Heap} {L : Addr} {P : List (Addr × Obj)} {m : Str → Option Value} {test : Expr} {body : List Stmt} {pos : Pos} {Q : Flow → Heap → Prop} (J : Nat → Heap → (Str → Option Value) → Prop) (T : At g L P h m) {n : Nat} (j : J n g m)
    (turn : ∀ n g m h, At g L P h m → J n g m → Wp w r A (isTrue test env (eval test env)) (fun b h₂ => if b then Wp w r A (execs body env) (fun f h₃ => match f with
        | .next | .cont => ∃ n' g' m', n' < n ∧ At g' L P h₃ m' ∧ J n' g' m'
        | .brk => Q .next h₃
        | .ret v => Q (.ret v) h₃) h₂ else Q .next h₂) h) : Wp w r A (exec (.While test body [] pos) env) Q h := by
  refine ⟨fun E tk => wpAny_While (codeAny_whileLoop (prog := PW) (fun k s => ∃ h tk g m, s = stt r h tk ∧ At g L P h m ∧ J k g m) ?_ n ⟨h, tk, g, m, rfl, T, j⟩)⟩
  rintro k s ⟨h, tk, g, m, rfl, T, j⟩
  refine (turn k g m h T j).into fun b h₂ tk₂ z => ?_
  cases b with
  | false => exact wpAny_execs_nil ⟨h₂, tk₂, rfl, z⟩
  | true =>
    refine Wp.into z fun f h₃ tk₃ z => ?_
    cases f with
    | next => obtain ⟨n', g', m', lt, T', j'⟩ := z; exact ⟨n', lt, h₃, tk₃, g', m', rfl, T', j'⟩
    | cont => obtain ⟨n', g', m', lt, T', j'⟩ := z; exact ⟨n', lt, h₃, tk₃, g', m', rfl, T', j'⟩
    | brk => exact ⟨h₃, tk₃, rfl, z⟩
    | ret v => exact ⟨h₃, tk₃, rfl, z⟩
def SL (h : Heap) (T : Addr) (p : Bool × Nat) : Prop := ∃ t t', h.get? T = some (tupO [.str (sd p.1) t, .str (lo p.2) t'])
def PileAt (w : World) (h : Heap) (p d : Addr) (pl : List (Bool × Nat)) : Prop := d ≠ p ∧ ∃ Ts : List Addr, Pile w h p d ((Ts.map Value.ref).reverse) ∧ Paired (SL h) Ts pl
theorem SL.ext {h h' : Heap} {W : List Addr} {T : Addr} {p : Bool × Nat} (e : SL h T p) (x : Ext W h h') (n : ∀ a ∈ W, ∀ vs, h.get? a ≠ some (tupO vs)) : SL h' T p := by
  obtain ⟨t, t', e⟩ := e
  exact ⟨t, t', x _ _ (fun q => n _ q _ e) e⟩
theorem PileAt.ext {w : World} {h h' : Heap} {p d : Addr} {pl : List (Bool × Nat)} {W : List Addr} (B : PileAt w h p d pl) (x : Ext W h h') (np : p ∉ W) (nd : d ∉ W) (n : ∀ a ∈ W, ∀ vs, h.get? a ≠ some (tupO vs)) : PileAt w h' p d pl :=
  ⟨B.1, let ⟨Ts, b, pr⟩ := B.2; ⟨Ts, b.ext x np nd, Paired.imp (fun _ _ z => SL.ext z x n) pr⟩⟩
theorem PileAt.kp {w : World} {h h' : Heap} {p d : Addr} {pl : List (Bool × Nat)} (B : PileAt w h p d pl) (k : Kp h h') : PileAt w h' p d pl := B.ext (Ext.of k []) (by simp) (by simp) (by simp)
theorem PileAt.len {w : World} {h : Heap} {p d : Addr} {pl : List (Bool × Nat)} (B : PileAt w h p d pl) : ∃ Ts : List Addr, Pile w h p d ((Ts.map Value.ref).reverse) ∧ Paired (SL h) Ts pl ∧ Ts.length = pl.length := by
  obtain ⟨_, Ts, b, pr⟩ := B
  exact ⟨Ts, b, pr, Paired.length pr⟩
section
variable {w : World} {r : Rst} {A : Around} {h : Heap} {env : Env} {Q : Value → Heap → Prop}
theorem m_push {p d : Addr} {pl : List (Bool × Nat)} {pq : Sem Bool} {Q : Value × List Value → Heap → Prop} (D : Wd w h) (B : PileAt w h p d pl) (q : Q (.ref 62, [.ref p]) h) : Wp w r A (getMethod (.ref p) "push" pq) Q h := by
  obtain ⟨_, Ts, b, pr⟩ := B
  obtain ⟨n, t, t', I⟩ := b.inst
  exact m_fn D.X I (acc_ga _) can_list (acc_gat _) (by kernel_rfl) (by kernel_rfl) rfl q
theorem m_pop {p d : Addr} {pl : List (Bool × Nat)} {pq : Sem Bool} {Q : Value × List Value → Heap → Prop} (D : Wd w h) (B : PileAt w h p d pl) (q : Q (.ref 78, [.ref p]) h) : Wp w r A (getMethod (.ref p) "pop" pq) Q h := by
  obtain ⟨_, Ts, b, pr⟩ := B
  obtain ⟨n, t, t', I⟩ := b.inst
  exact m_fn D.X I (acc_ga _) can_list (acc_gat _) (by kernel_rfl) (by kernel_rfl) rfl q
theorem m_get {x d l : Addr} {hs : Hs} {pq : Sem Bool} {Q : Value × List Value → Heap → Prop} (D : Wd w h) (B : Hdr w h x d l hs) (q : Q (.ref 279, [.ref x]) h) : Wp w r A (getMethod (.ref x) "get" pq) Q h := by
  obtain ⟨t, I⟩ := B.inst
  exact m_fn D.X I (hdr_ga _) PySem.F.canon_object_ga (hdr_gat _) (by kernel_rfl) (by kernel_rfl) rfl q
theorem m_addh {x d l : Addr} {hs : Hs} {pq : Sem Bool} {Q : Value × List Value → Heap → Prop} (D : Wd w h) (B : Hdr w h x d l hs) (q : Q (.ref 329, [.ref x]) h) : Wp w r A (getMethod (.ref x) "add_header" pq) Q h := by
  obtain ⟨t, I⟩ := B.inst
  exact m_fn D.X I (hdr_ga _) PySem.F.canon_object_ga (hdr_gat _) (by kernel_rfl) (by kernel_rfl) rfl q
theorem m_keys {x d l : Addr} {hs : Hs} {pq : Sem Bool} {Q : Value × List Value → Heap → Prop} (D : Wd w h) (B : Hdr w h x d l hs) (q : Q (.ref 284, [.ref x]) h) : Wp w r A (getMethod (.ref x) "keys" pq) Q h := by
  obtain ⟨t, I⟩ := B.inst
  exact m_fn D.X I (hdr_ga _) PySem.F.canon_object_ga (hdr_gat _) (by kernel_rfl) (by kernel_rfl) rfl q
theorem pushB {b g : Heap} {L : Addr} {P : List (Addr × Obj)} {m : Str → Option Value} {p d : Addr} {pl : List (Bool × Nat)} (Db : Wd w b) (kb : Kp b g) (T : At g L P h m) (B : PileAt w g p d pl) (hz : pl.length ≤ 1000) {k : Nat} (R : Room A (k + 3)) {s : Bool} {j : Nat} {tx ty : Tok}
    (q : ∀ g' h', At g' L P h' m → Ext [p] g g' → PileAt w g' p d ((s, j) :: pl) → Q .none h') : Wp w r A (call (.ref 62) [.ref p, .str (sd s) tx, .str (lo j) ty]) Q h := by
  obtain ⟨Ts, b, pr, hl⟩ := B.len
  refine push_ ((Db.kp kb).kp T.kp) (b.ext (Ext.of T.kp []) (by simp) (by simp)) (by simp; omega) B.1 R fun h' Tt x nT eT b' => ?_
  obtain ⟨n, e⟩ := b.obj
  obtain ⟨g', T', x', nw⟩ := T.anew x (fun a ha => by rw [List.mem_singleton.mp ha]; exact ⟨_, e⟩)
  have nt : ∀ a ∈ [p], ∀ vs, g.get? a ≠ some (tupO vs) := by
    intro a ha vs
    rw [List.mem_singleton.mp ha, e]
    intro z; injection z with z; injection z with z1 z2; cases z1
  obtain ⟨n', e'⟩ := b'.obj
  obtain ⟨t, t', ed⟩ := b.dict
  refine q g' h' T' x' ⟨B.1, Tt :: Ts, ⟨⟨n', ?_⟩, t, t', x' _ _ (by simpa using B.1) ed⟩, .cons ⟨tx, ty, nw _ _ (.inl nT) eT⟩ (Paired.imp (fun _ _ z => SL.ext z x' nt) pr)⟩
  have := nw _ _ (.inr (by simp)) e'
  simpa using this
theorem popB {b g : Heap} {L : Addr} {P : List (Addr × Obj)} {m : Str → Option Value} {p d : Addr} {pl : List (Bool × Nat)} (Db : Wd w b) (kb : Kp b g) (T : At g L P h m) (B : PileAt w g p d pl) (hz : pl.length ≤ 1000) {k : Nat} (R : Room A (k + 6))
    (q0 : pl = [] → ∀ h' Tt t t', At g L P h' m → h'.get? Tt = some (tupO [.str "" t, .str "" t']) → Q (.ref Tt) h')
    (q1 : ∀ s j pl' g' h' Tt t t', pl = (s, j) :: pl' → At g' L P h' m → Ext [p] g g' → PileAt w g' p d pl' → g'.get? Tt = some (tupO [.str (sd s) t, .str (lo j) t']) → Q (.ref Tt) h') : Wp w r A (call (.ref 78) [.ref p]) Q h := by
  obtain ⟨Ts, b, pr, hl⟩ := B.len
  refine pop_ ((Db.kp kb).kp T.kp) (b.ext (Ext.of T.kp []) (by simp) (by simp)) (by simp; omega) B.1 R (fun e h' Tt t t' k n z => q0 ?_ h' Tt t t' (T.ext k) z) (fun us v e h' x b' => ?_)
  · have : Ts = [] := by simpa using e
    subst this
    cases pr; rfl
  · cases pr with
    | nil => simp at e
    | @cons T0 pj Ts' pl' hT pr' =>
      have e2 : (Ts'.map Value.ref).reverse = us ∧ Value.ref T0 = v := by
        have : (Ts'.map Value.ref).reverse ++ [Value.ref T0] = us ++ [v] := by simpa using e
        have := List.append_inj' this rfl
        exact ⟨this.1, by simpa using this.2⟩
      obtain ⟨rfl, rfl⟩ := e2
      obtain ⟨n, eo⟩ := b.obj
      obtain ⟨g', T', x', nw⟩ := T.anew x (fun a ha => by rw [List.mem_singleton.mp ha]; exact ⟨_, eo⟩)
      have nt : ∀ a ∈ [p], ∀ vs, g.get? a ≠ some (tupO vs) := by
        intro a ha vs
        rw [List.mem_singleton.mp ha, eo]
        intro z; injection z with z; injection z with z1 z2; cases z1
      obtain ⟨t, t', eT⟩ := SL.ext hT x' nt
      obtain ⟨n', e'⟩ := b'.obj
      obtain ⟨td, td', ed⟩ := b.dict
      exact q1 pj.1 pj.2 pl' g' h' T0 t t' rfl T' x' ⟨B.1, Ts', ⟨⟨n', nw _ _ (.inr (by simp)) e'⟩, td, td', x' _ _ (by simpa using B.1) ed⟩, Paired.imp (fun _ _ z => SL.ext z x' nt) pr'⟩ eT
theorem addhB {b g : Heap} {L : Addr} {P : List (Addr × Obj)} {m : Str → Option Value} (Db : Wd w b) (kb : Kp b g) (T : At g L P h m) {x d l : Addr} {hs : Hs} (B : Hdr w g x d l hs) (nl : b.get? l = none) (hz : hs.length ≤ 500) {j : Nat} (hj : j < 8) {sb : Bool} {t t' : Tok} {k : Nat} (R : Room A (k + 6))
    (q : ∀ g' h', At g' L P h' m → Ext [l] g g' → Hdr w g' x d l (hs ++ [(j, sb)]) → Q .none h') : Wp w r A (call (.ref 329) [.ref x, .str (up j) t, .str (sd sb) t']) Q h := by
  obtain ⟨Ts, n, eL, pr⟩ := B.lst
  refine addh_ Db (fun _ _ e => T.kp _ _ (kb _ _ e)) (B.kp T.kp) nl hz hj R fun h' T0 Ts' n' x' nT tT pr' eL1 eL' => ?_
  obtain ⟨g', T', xg, nw⟩ := T.anew x' (fun a ha => by rw [List.mem_singleton.mp ha]; exact ⟨_, eL⟩)
  have hxl : x ≠ l := ne_of B.obj eL (by simp)
  have hdl : d ≠ l := by obtain ⟨t, e⟩ := B.dict; exact ne_of e eL (by simp)
  obtain ⟨td, eD⟩ := B.dict
  have nt : ∀ a ∈ [l], ∀ vs, g.get? a ≠ some (tupO vs) := by
    intro a ha vs
    rw [List.mem_singleton.mp ha, eL]
    simp
  have e5 : Ts' = Ts := by
    obtain ⟨n1, e6⟩ := eL1
    rw [T.kp _ _ eL] at e6
    injection e6 with e6; injection e6 with _ _ e6 _; injection e6 with e6 _
    have e7 : Ts.map Value.ref = Ts'.map Value.ref := by simpa using e6
    exact refs_inj e7.symm
  subst e5
  obtain ⟨t1, t2, eT⟩ := tT
  refine q g' h' T' xg ⟨xg _ _ (by simpa using hxl) B.obj, ⟨td, xg _ _ (by simpa using hdl) eD⟩, Ts' ++ [T0], n', nw _ _ (.inr (by simp)) eL', Paired.snoc (Paired.imp (fun _ _ z => TupAt.ext z xg nt) pr) ⟨t1, t2, nw _ _ (.inl nT) eT⟩⟩
end
end Mine
end
noncomputable section
open PySem PySem.W PySem.Spec PySem.Calls PyProof.Rows
set_option maxRecDepth 100000
set_option autoImplicit false
namespace Mine
open Pl
theorem got_look {hs : Hs} {j : Nat} {v : Value} (z : gotOf hs j v) : match look hs j with | some s => ∃ t, v = .str (sd s) t | none => v = .none := by
  unfold gotOf at z
  unfold look
  cases e : hs.find? (fun p => p.1 == j) with
  | none => rw [e] at z; exact z
  | some p => rw [e] at z; exact z
theorem mate_lt {l : List Nat} (h : ∀ j ∈ l, j < 8) {x y : Nat} (e : mate l x = some y) : y < 8 := by
  unfold mate at e
  split at e
  · exact h y (List.mem_of_getElem? e)
  · cases e
theorem mate_idx {l : List Nat} {x y : Nat} (e : mate l x = some y) : ∃ i, l.findIdx? (· == x) = some i ∧ i < l.length ∧ l[i ^^^ 1]? = some y := by
  unfold mate at e
  split at e
  · rename_i i h
    exact ⟨i, h, (List.findIdx?_eq_some_iff_getElem.mp h).1, e⟩
  · cases e
theorem body_mono {pm qm : Nat → Option Nat} {hs hs' : Hs} {pl pl' : List (Bool × Nat)} {s : Bool} {j : Nat} (e : Pl.bodyP pm qm hs pl s j = some (hs', pl')) : hs.length ≤ hs'.length ∧ pl.length ≤ pl'.length := by
  unfold Pl.bodyP at e
  split at e
  · cases e; exact ⟨Nat.le_refl _, Nat.le_refl _⟩
  · split at e
    · cases e; simp; omega
    · cases e
theorem while_mono {pm qm : Nat → Option Nat} : ∀ {f : Nat} {hs hs' : Hs} {c c' : Nat} {pl : List (Bool × Nat)}, whileP pm qm f hs c pl = some (hs', c') → hs.length ≤ hs'.length ∧ c + pl.length ≤ c'
  | f, hs, hs', c, c', [], e => by
    have : whileP pm qm f hs c [] = some (hs, c) := by unfold whileP; rfl
    rw [this] at e; cases e; simp
  | 0, hs, hs', c, c', p :: pl, e => by simp [whileP] at e
  | f + 1, hs, hs', c, c', (s, j) :: pl, e => by
    rw [whileP] at e
    split at e
    · cases e
    · rename_i hs1 pl1 eb
      have h1 := body_mono eb
      have h2 := while_mono e
      simp only [List.length_cons]
      omega
theorem for_mono {pm qm : Nat → Option Nat} : ∀ {row : List Nat} {hs hs' : Hs} {c c' : Nat}, forP pm qm row hs c = some (hs', c') → hs.length ≤ hs'.length ∧ c ≤ c'
  | [], hs, hs', c, c', e => by simp [forP] at e; obtain ⟨rfl, rfl⟩ := e; simp
  | x :: row, hs, hs', c, c', e => by
    rw [forP] at e
    split at e
    · cases e
    · rename_i hs1 c1 ew
      have h1 := while_mono ew
      have h2 := for_mono e
      omega
def Cur (w : World) (g : Heap) (p d : Addr) (m : Str → Option Value) (pl : List (Bool × Nat)) : Prop := match pl with
  | [] => (∃ t t', m "side" = some (.str "" t) ∧ m "line" = some (.str "" t')) ∧ PileAt w g p d []
  | (s, j) :: pl' => (∃ t t', m "side" = some (.str (sd s) t) ∧ m "line" = some (.str (lo j) t')) ∧ PileAt w g p d pl'
section
variable {w : World} {r : Rst} {A : Around} {h : Heap} {env : Env}
theorem s_seq {st : Stmt} {rest : List Stmt} {Q : Flow → Heap → Prop} (mid : Heap → Prop) (p : Wp w r A (exec st env) (fun f h' => f = .next ∧ mid h') h) (k : ∀ h', mid h' → Wp w r A (execs rest env) Q h') : Wp w r A (execs (st :: rest) env) Q h :=
  s_cons (p.mono fun f h' z => by obtain ⟨rfl, z⟩ := z; exact k h' z)
theorem not_tup {g : Heap} {p d : Addr} {pl : List (Bool × Nat)} (B : PileAt w g p d pl) : ∀ a ∈ [p], ∀ vs, g.get? a ≠ some (tupO vs) := by
  obtain ⟨_, Ts, b, _⟩ := B
  obtain ⟨n, e⟩ := b.obj
  intro a ha vs
  rw [List.mem_singleton.mp ha, e]
  intro z; injection z with z; injection z with z1 z2; cases z1
theorem not_tupL {g : Heap} {x d l : Addr} {hs : Hs} (B : Hdr w g x d l hs) : ∀ a ∈ [l], ∀ vs, g.get? a ≠ some (tupO vs) := by
  obtain ⟨Ts, n, e, _⟩ := B.lst
  intro a ha vs
  rw [List.mem_singleton.mp ha, e]
  intro z; injection z with z; injection z with z1 z2; simp at z1
theorem apart {g : Heap} {x d l p dp : Addr} {hs : Hs} {pl : List (Bool × Nat)} (H : Hdr w g x d l hs) (B : PileAt w g p dp pl) : x ≠ p ∧ d ≠ p ∧ l ≠ p ∧ l ≠ dp := by
  obtain ⟨_, Ts, b, _⟩ := B
  obtain ⟨n, e⟩ := b.obj
  obtain ⟨t, t', ed⟩ := b.dict
  obtain ⟨td, eD⟩ := H.dict
  obtain ⟨Ls, k, eL, _⟩ := H.lst
  refine ⟨ne_of H.obj e ?_, ne_of eD e ?_, ne_of eL e ?_, ne_of eL ed ?_⟩
  all_goals intro z; injection z with z1 z2; first | cases z1 | (simp at z1)
theorem pop_stmt {b g : Heap} {L p d : Addr} {m : Str → Option Value} {pl : List (Bool × Nat)} {ek : Nat} {p1 p2 p3 p4 p5 p6 p7 : Pos} {Q : Flow → Heap → Prop} {f : Addr} {cl : List (Str × Addr)} {cdv : Value} {qual : Str} {scope : Scope} (he : env = envX qual scope L f cdv cl) (k1 : scope.names.lookup ("pile" : Str) = some .local) (k2 : scope.names.lookup ("side" : Str) = some .local) (k3 : scope.names.lookup ("line" : Str) = some .local) (hk : scope.kind = .function)
    (Db : Wd w b) (kb : Kp b g) {P : List (Addr × Obj)} (T : At g L P h m) (B : PileAt w g p d pl) (hz : pl.length ≤ 1000) {k : Nat} (R : Room A (k + 6)) (hm : m "pile" = some (.ref p))
    (q : ∀ g' h' m', At g' L P h' m' → Ext [p] g g' → Cur w g' p d m' pl → (∀ y : Str, y ≠ "side" → y ≠ "line" → m' y = m y) → Q .next h')
    (hs : swapsWithSole [.Tuple [.Name "side" p1, .Name "line" p2] ek p3] (.Call (.Attribute (.Name "pile" p4) "pop" p5) [] [] p6) p7.line env = pure false := by rfl) (hw : swappedStores [.Tuple [.Name "side" p1, .Name "line" p2] ek p3] (.Call (.Attribute (.Name "pile" p4) "pop" p5) [] [] p6) env = pure none := by rfl)
    {pz : Sem Bool} (hc : eval (.Call (.Attribute (.Name "pile" p4) "pop" p5) [] [] p6) env = (do
      let ov ← eval (.Name "pile" p4) env
      PySem.standAt p5.atName
      let (f, first) ← PySem.holding [ov] (getMethod ov "pop" pz)
      callWith p6 f first (backTo p6 (starEach [] env)) []) := by rfl) :
    Wp w r A (exec (.Assign [.Tuple [.Name "side" p1, .Name "line" p2] ek p3] (.Call (.Attribute (.Name "pile" p4) "pop" p5) [] [] p6) p7) env) Q h := by
  subst he
  refine s_asgT (c_me (pl := pz) (fun pq => nmL T hm ?_ hk k1) hc) hs hw
  have D := (Db.kp kb).kp T.kp
  refine m_pop D (B.kp T.kp) (w_fn0 D (fun P => by kernel_rfl) ?_)
  refine popB Db kb T B hz R (fun e h' Tt t t' T' eT => ?_) (fun s j pl' g' h' Tt t t' e T' x B' eT => ?_)
  · subst e
    refine a_tup R.handled eT (fun h₂ k₂ => ?_) rfl rfl
    refine io_cons (a_name (stL (T'.ext k₂) (fun h₃ T₃ => io_cons (a_name (stL T₃ (fun h₄ T₄ => io_nil ?_) hk k3))) hk k2))
    refine q g h₄ _ T₄ (Ext.refl _ _) ⟨⟨t, t', rfl, rfl⟩, B⟩ (fun y n1 n2 => ?_)
    simp only [n1, n2, if_false]
  · subst e
    refine a_tup R.handled (T'.kp _ _ eT) (fun h₂ k₂ => ?_) rfl rfl
    refine io_cons (a_name (stL (T'.ext k₂) (fun h₃ T₃ => io_cons (a_name (stL T₃ (fun h₄ T₄ => io_nil ?_) hk k3))) hk k2))
    refine q g' h₄ _ T₄ x ⟨⟨t, t', rfl, rfl⟩, B'⟩ (fun y n1 n2 => ?_)
    simp only [n1, n2, if_false]
end
end Mine
end
noncomputable section
open PySem PySem.W PySem.Spec PySem.Calls PyProof.Rows
set_option maxRecDepth 100000
set_option autoImplicit false
namespace Mine
open Pl
theorem g_headers (P : Params) : nsIn (K0 P) mainGlobals "Headers" = some (some (.ref 332)) := by kernel_rfl
theorem g_acc (P : Params) : nsIn (K0 P) mainGlobals "_Accumulator" = some (some (.ref 118)) := by kernel_rfl
section
variable {w : World} {r : Rst} {A : Around} {h : Heap} {Q : Value → Heap → Prop}
theorem drop_at {row : List Nat} {i j : Nat} (e : row[i]? = some j) : row.drop i = j :: row.drop (i + 1) := by
  obtain ⟨hi, rfl⟩ := List.getElem?_eq_some_iff.mp e
  exact List.drop_eq_getElem_cons hi
theorem while_nil {pm qm : Nat → Option Nat} {f : Nat} {hs : Hs} {c : Nat} : whileP pm qm f hs c [] = some (hs, c) := by unfold whileP; rfl
theorem sides_ {row order : List Nat} (D : Wd w h) (hr : ∀ j ∈ row, j < 8) (ho : ∀ j ∈ order, j < 8) (lr : row.length ≤ 8) (lo' : order.length ≤ 8) {hsF : Hs} {cF : Nat} (e : sidesP row order = some (hsF, cF)) (zh : hsF.length ≤ 500) (zc : cF ≤ 900) {t1 t2 : Tok} {k : Nat} (R : Room A (k + 9))
    (q : ∀ h' Tt x d l t, Kp h h' → h'.get? Tt = some (tupO [.ref x, .int cF t]) → Hdr w h' x d l hsF → (∀ p ∈ hsF, p.1 < 8) → h.get? l = none → h.get? d = none → Q (.ref Tt) h') : Wp w r A (call (.ref 348) [.str (tx row) t1, .str (tx order) t2]) Q h := by
  refine callF D R (o := o348 w.params) (binds := [("row", .str (tx row) t1), ("order", .str (tx order) t2)]) (by kernel_rfl) rfl (by kernel_rfl) (fun tk => BindsTo.of_eq rfl) (by rfl) (fun L h₁ hL T R => ?_) (by decide) rfl rfl rfl
  refine s_cons (s_asg (c_fn (nmK D T g_headers (w_fn0 (D.kp T.kp) (fun P => by kernel_rfl) ?_))))
  refine new_hdr D T.kp (R.le (Nat.le_add_left _ _) : Room _ (4 + 4)) (fun x d l h₂ k₂ nx nd nl H₂ => ?_)
  refine xcj3 (T.anew0 k₂) fun g₁ T₁ kg₁ ng₁ => ?_
  have H₁ : Hdr w g₁ x d l [] := by
    obtain ⟨e1, ⟨t, e2⟩, Ts, n, e3, pr⟩ := H₂
    cases pr
    exact ⟨ng₁ _ _ nx e1, ⟨t, ng₁ _ _ nd e2⟩, [], n, ng₁ _ _ nl e3, .nil⟩
  refine stL T₁ fun h₃ T₃ => ?_
  refine s_cons (s_asg (e_int fun t₃ => stL T₃ fun h₄ T₄ => ?_))
  have D₁ := D.kp kg₁
  refine s_cons (s_asg (c_fn (nmK D₁ T₄ g_acc (w_fn0 (D₁.kp T₄.kp) (fun P => by kernel_rfl) ?_))))
  refine new_acc D₁ T₄.kp (R.le (Nat.le_add_left _ _) : Room _ (4 + 4)) (fun p dp h₅ k₅ np ndp hdp P₅ => ?_)
  refine xcj3 (T₄.anew0 k₅) fun g₂ T₅ kg₂ ng₂ => ?_
  have B₂ : PileAt w g₂ p dp [] := by
    obtain ⟨⟨n, e1⟩, t, t', e2⟩ := P₅
    exact ⟨hdp, [], ⟨⟨n, ng₂ _ _ np e1⟩, t, t', ng₂ _ _ ndp e2⟩, .nil⟩
  have H₃ := H₁.kp kg₂
  have hp0 : h.get? p = none := none_of_ext (Ext.of (fun _ _ e => T₄.kp _ _ (kg₁ _ _ e)) []) (by simp) np
  have hl0 : h.get? l = none := none_of_ext (Ext.of T.kp []) (by simp) nl
  have hd0 : h.get? d = none := none_of_ext (Ext.of T.kp []) (by simp) nd
  refine stL T₅ fun h₆ T₆ => ?_
  obtain ⟨It, S⟩ := Src.str w (tx row) t1
  refine s_cons (s_for (nmL T₆ rfl (lp_src S R.handled (fun i g m => Kp h g ∧ m "row" = some (.str (tx row) t1) ∧ m "order" = some (.str (tx order) t2) ∧ m "sides" = some (.ref x) ∧ m "pile" = some (.ref p) ∧
    ∃ hs c tc, m "count" = some (.int (c : Nat) tc) ∧ Hdr w g x d l hs ∧ PileAt w g p dp [] ∧ (∀ q ∈ hs, q.1 < 8) ∧ forP (mate row) (mate order) (row.drop i) hs c = some (hsF, cF)) T₆ ⟨fun _ _ e => kg₂ _ _ (kg₁ _ _ e), rfl, rfl, rfl, rfl, [], 0, t₃, rfl, H₃, B₂, by simp, e⟩ (fun _ _ _ _ => trivial) ?_ ?_)))
  · rintro i v I o g m h₇ lt ⟨ch, tch, hch, rfl⟩ T₇ zz; refine cj6 zz fun kg mr mo ms mp zz0 => ?_; clear zz; refine xj3 zz0 fun hs c tc zz1 => ?_; clear zz0; refine cj5 zz1 fun mc H B h8 fe => ?_; clear zz1
    obtain ⟨j, hj, rfl⟩ : ∃ j, row[i]? = some j ∧ 97 + j = ch := by rw [tx_at] at hch; simpa using hch
    have j8 : j < 8 := hr j (List.mem_of_getElem? hj)
    have Dg := D.kp kg
    rw [drop_at hj, forP] at fe
    split at fe
    · cases fe
    rename_i hs1 c1 we
    have fm := for_mono fe
    have wm := while_mono we
    refine a_name (stL T₇ fun h₈ T₈ => ?_)
    refine s_seq (fun h' => ∃ g' pl, At g' L [(I, o)] h' (fun y => if y = "name" then some (.str (lo j) tch) else m y) ∧ Kp h g' ∧ Hdr w g' x d l hs ∧ PileAt w g' p dp pl ∧ (∀ q ∈ pl, q.2 < 8) ∧ whileP (mate row) (mate order) 40 hs c pl = some (hs1, c1)) ?_ ?_
    · refine s_if (t_cmp (c_me fun pq => nmL T₈ ms (m_get (Dg.kp T₈.kp) (H.kp T₈.kp) (w_fn Dg (fun P => by kernel_rfl) (a_cons (nmL T₈ rfl (a_nil ⟨T₈.kp, ?_⟩)))))))
      refine get_ (j := j) (Dg.kp T₈.kp) (H.kp T₈.kp) h8 j8 (R.le (Nat.le_add_left _ _) : Room _ (2 + 6)) (fun h₉ vg k₉ gl => e_none ?_)
      have gl := got_look gl
      have T₉ := T₈.ext k₉
      cases el : look hs j with
      | none =>
        rw [el] at gl we
        subst gl
        refine o_is rfl (t_bool ?_)
        refine s_cons (s_expr (c_me fun pq => nmL T₉ mp (m_push (Dg.kp T₉.kp) (B.kp T₉.kp) (w_fn Dg (fun P => by kernel_rfl) (a_cons (e_str fun t => a_cons (nmL T₉ rfl (a_nil ⟨T₉.kp, ?_⟩))))))))
        refine pushB (s := true) (j := j) D kg T₉ B (by simp) (R.le (Nat.le_add_left _ _) : Room _ (5 + 3)) (fun g' h' T' x' B' => s_nil ⟨rfl, g', _, T', kpx kg x' (by simpa using hp0), ?_, B', by simpa using j8, we⟩)
        refine cj4 (apart H B) fun a1 a2 a3 a4 => ?_
        exact H.ext x' (by simpa using a1) (by simpa using a2) (by simpa using a3) (not_tup B)
      | some s =>
        rw [el] at gl we
        obtain ⟨t, rfl⟩ := gl
        refine o_is rfl (t_bool ?_)
        exact s_nil ⟨rfl, g, [], T₉, kg, H, B, by simp, we⟩
    · rintro h' zz; refine xj2 zz fun g' pl zz0 => ?_; clear zz; refine cj6 zz0 fun T' kg' H' B' p8 we' => ?_; clear zz0
      have wm' := while_mono we'
      refine s_cons (pop_stmt rfl rfl rfl rfl rfl D kg' T' B' (by omega) (R.le (Nat.le_add_left _ _) : Room _ (2 + 6)) mp (fun g₃ h₃ m₃ T₃' x₃ cu pres => ?_))
      refine cj4 (apart H' B') fun a1 a2 a3 a4 => ?_
      have kg3 := kpx kg' x₃ (by simpa using hp0)
      have H3 := H'.ext x₃ (by simpa using a1) (by simpa using a2) (by simpa using a3) (not_tup B')
      have pr (y : Str) (n1 : y ≠ "side") (n2 : y ≠ "line") : m₃ y = (if y = "name" then some (.str (lo j) tch) else m y) := pres y n1 n2
      refine s_cons (s_while (fun f g m => Kp h g ∧ m "row" = some (.str (tx row) t1) ∧ m "order" = some (.str (tx order) t2) ∧ m "sides" = some (.ref x) ∧ m "pile" = some (.ref p) ∧
        ∃ hs c tc pl, m "count" = some (.int (c : Nat) tc) ∧ Hdr w g x d l hs ∧ Cur w g p dp m pl ∧ (∀ q ∈ hs, q.1 < 8) ∧ (∀ q ∈ pl, q.2 < 8) ∧ whileP (mate row) (mate order) f hs c pl = some (hs1, c1)) T₃' (n := 40)
        ⟨kg3, (pr _ (by decide) (by decide)).trans mr, (pr _ (by decide) (by decide)).trans mo, (pr _ (by decide) (by decide)).trans ms, (pr _ (by decide) (by decide)).trans mp, hs, c, tc, pl, (pr _ (by decide) (by decide)).trans mc, H3, cu, h8, p8, we'⟩ ?_)
      clear T₃' kg3 H3 pr pres cu x₃ a1 a2 a3 a4 wm' we' p8 B' H' kg' T' mc H h8 B mr mo ms mp T₇ T₈ kg Dg we
      rintro f g m hh T zz; refine cj6 zz fun kg mr mo ms mp zz0 => ?_; clear zz; refine xj4 zz0 fun hs c tc pl zz1 => ?_; clear zz0; refine cj6 zz1 fun mc H cu h8 p8 we => ?_; clear zz1
      cases pl with
      | nil =>
        obtain ⟨⟨t, t', m1, m2⟩, B⟩ := cu
        refine t_val (nmL T m2 (t_str (by decide) ?_))
        rw [while_nil] at we
        cases we
        exact s_nil ⟨g, m, T, kg, mr, mo, ms, mp, _, _, tc, mc, H, B, h8, fe⟩
      | cons sj pl =>
        obtain ⟨s, jl⟩ := sj
        obtain ⟨⟨t, t', m1, m2⟩, B⟩ := cu
        have jl8 : jl < 8 := p8 _ (.head _)
        cases f with
        | zero => simp [whileP] at we
        | succ f =>
          have wm := while_mono we
          rw [whileP] at we
          split at we
          · cases we
          rename_i hs2 pl2 be
          have wm2 := while_mono we
          have Dg := D.kp kg
          refine t_val (nmL T m2 (t_str (by show 1 ≤ 1000; decide) ?_))
          refine s_cons (s_aug (ldL T mc (e_int fun t₁ => o_iaddi fun t₂ => stL T fun h₂ T₂ => ?_)))
          refine s_seq (fun h' => ∃ g' m', At g' L [(I, o)] h' m' ∧ Kp h g' ∧ m' "row" = some (.str (tx row) t1) ∧ m' "order" = some (.str (tx order) t2) ∧ m' "sides" = some (.ref x) ∧ m' "pile" = some (.ref p) ∧ (∃ t, m' "count" = some (.int ((c + 1 : Nat) : Int) t)) ∧
            Hdr w g' x d l hs2 ∧ PileAt w g' p dp pl2 ∧ (∀ q ∈ hs2, q.1 < 8) ∧ (∀ q ∈ pl2, q.2 < 8)) ?_ ?_
          · refine s_if (t_cmp (c_me fun pq => nmL T₂ ms (m_get (Dg.kp T₂.kp) (H.kp T₂.kp) (w_fn Dg (fun P => by kernel_rfl) (a_cons (nmL T₂ m2 (a_nil ⟨T₂.kp, ?_⟩)))))))
            refine get_ (j := jl) (Dg.kp T₂.kp) (H.kp T₂.kp) h8 jl8 (R.le (Nat.le_add_left _ _) : Room _ (2 + 6)) (fun h₃ vg k₃ gl => e_none ?_)
            have gl := got_look gl
            have T₃ := T₂.ext k₃
            unfold Pl.bodyP at be
            cases el : look hs jl with
            | some s' =>
              rw [el] at gl be
              obtain ⟨tg, rfl⟩ := gl
              cases be
              refine o_is rfl (t_bool ?_)
              exact s_nil ⟨rfl, g, _, T₃, kg, mr, mo, ms, mp, ⟨_, rfl⟩, H, B, h8, fun q hq => p8 q (.tail _ hq)⟩
            | none =>
              rw [el] at gl be
              subst gl
              dsimp only at be
              split at be
              · rename_i ya yb ea eb
                cases be
                refine o_is rfl (t_bool ?_)
                refine s_cons (s_expr (c_me fun pq => nmL T₃ ms (m_addh (Dg.kp T₃.kp) (H.kp T₃.kp) (w_fn Dg (fun P => by kernel_rfl) (a_cons (c_me fun pq => nmL T₃ m2 ?_))))))
                refine g_upper (w_bi0 (c_upper (by rw [up_lo jl jl8]; show decide (1 > sizeLine) = false; decide +kernel) fun t₃ => ?_))
                rw [up_lo jl jl8]
                refine a_cons (nmL T₃ m1 (a_nil ⟨T₃.kp, ?_⟩))
                have hl5 : hs.length ≤ 500 := by have := wm.1; have := fm.1; omega
                refine addhB (sb := s) D kg T₃ H hl0 hl5 jl8 (R.le (Nat.le_add_left _ _) : Room _ (2 + 6)) (fun g₄ h₄ T₄ x₄ H₄ => ?_)
                refine cj4 (apart H B) fun a1 a2 a3 a4 => ?_
                have kg4 := kpx kg x₄ (by simpa using hl0)
                have B₄ := B.ext x₄ (by simpa using a3.symm) (by simpa using a4.symm) (not_tupL H)
                refine s_cons (s_for (e_list (a_cons (nmL T₄ mr (a_cons (nmL T₄ mo (a_nil (n_list fun ll h₅ k₅ nll e₅ => ?_))))))))
                refine xcj3 (T₄.anew0 k₅) fun g₅ T₅ kg₅ ng₅ => ?_
                have ell : g₅.get? ll = some (listO [.str (tx row) t1, .str (tx order) t2]) := ng₅ _ _ nll e₅
                refine lp_src (Src.list w ll [.str (tx row) t1, .str (tx order) t2]) R.handled (fun i g m => Kp h g ∧ m "row" = some (.str (tx row) t1) ∧ m "order" = some (.str (tx order) t2) ∧ m "sides" = some (.ref x) ∧ m "pile" = some (.ref p) ∧ (∃ t, m "count" = some (.int ((c + 1 : Nat) : Int) t)) ∧
                  m "side" = some (.str (sd s) t) ∧ m "line" = some (.str (lo jl) t') ∧ g.get? ll = some (listO [.str (tx row) t1, .str (tx order) t2]) ∧
                  Hdr w g x d l (hs ++ [(jl, s)]) ∧ PileAt w g p dp ((([(!s, ya), (!s, yb)] : List (Bool × Nat)).take i).reverse ++ pl)) T₅
                  ⟨fun _ _ e => kg₅ _ _ (kg4 _ _ e), mr, mo, ms, mp, ⟨_, rfl⟩, m1, m2, ell, H₄.kp kg₅, B₄.kp kg₅⟩ (fun i g m z => ⟨0, z.2.2.2.2.2.2.2.2.1⟩) ?_ ?_
                · rintro i₂ v₂ I₂ o₂ g₆ m₆ h₆ lt₂ hv₂ T₆ zz; refine cj11 zz fun kg6 mr6 mo6 ms6 mp6 mc6 m16 m26 el6 H6 B6 => ?_; clear zz
                  obtain ⟨lns, tl, y, rfl, ey, y8, ln8, ep⟩ : ∃ lns tl y, v₂ = .str (tx lns) tl ∧ mate lns jl = some y ∧ y < 8 ∧ lns.length ≤ 8 ∧ ([(!s, ya), (!s, yb)] : List (Bool × Nat))[i₂]? = some (!s, y) := by
                    match i₂, lt₂, hv₂ with
                    | 0, _, hv => cases hv; exact ⟨row, t1, ya, rfl, ea, mate_lt hr ea, lr, rfl⟩
                    | 1, _, hv => cases hv; exact ⟨order, t2, yb, rfl, eb, mate_lt ho eb, lo', rfl⟩
                  obtain ⟨i₀, ei, hi0, ey'⟩ := mate_idx ey
                  have D6 := D.kp kg6
                  refine a_name (stL T₆ fun h₇ T₇ => ?_)
                  refine s_cons (s_expr (c_me fun pq => nmL T₇ mp6 (m_push (D6.kp T₇.kp) (B6.kp T₇.kp) (w_fn D6 (fun P => by kernel_rfl) (a_cons (e_sub (e_dict rfl rfl (by decide) (by decide) fun h₈ k₈ => pt_cons (e_str fun ta => e_str fun tb => pt_cons (e_str fun tc => e_str fun td => pt_nil ?_)))))))))
                  refine ⟨[("=", .str "x" tb), ("x", .str "=" td)], ⟨strKind_is _ _ _ _, rfl, strKind_is _ _ _ _, rfl, trivial⟩, fun _ _ e => e, fun dd h₉ k₉ nd hd => ?_⟩
                  have T₉ := T₇.ext k₉
                  obtain ⟨tv, ev⟩ : ∃ tv, valueAt (merged [] [(("=" : Str), Value.str "x" tb), (("x" : Str), Value.str "=" td)]) (sd s) = some (.str (sd !s) tv) := by
                    cases s
                    · exact ⟨td, by kernel_rfl⟩
                    · exact ⟨tb, by kernel_rfl⟩
                  refine nmL T₉ m16 (sub_dict hd ev ?_)
                  refine a_cons (e_sub (nmL T₉ rfl (e_bin (c_me fun pq => nmL T₉ rfl (g_index (w_bi (a_cons (nmL T₉ m26 (a_nil (c_index ei fun te => e_int fun tf => o_xori fun tg => ?_))))))))))
                  rw [xor_at i₀ (by omega)]
                  have hx8 : i₀ ^^^ 1 < lns.length := (List.getElem?_eq_some_iff.mp ey').1
                  refine sub_str (c := 97 + y) (by omega) (by rw [tx_at, ey']; rfl) (fun th => a_nil ⟨T₉.kp, ?_⟩)
                  refine pushB (s := !s) (j := y) D kg6 T₉ B6 (by have z := wm2.2; simp only [List.length_cons] at z; simp; omega) (R.le (Nat.le_add_left _ _) : Room _ (5 + 3)) (fun g' h' T' x' B' => s_nil ⟨g', _, T', kpx kg6 x' (by simpa using hp0), mr6, mo6, ms6, mp6, mc6, m16, m26, ?_, ?_, ?_⟩)
                  · refine x' _ _ ?_ el6
                    simp only [List.mem_singleton]
                    rintro rfl
                    obtain ⟨_, Tz, bz, _⟩ := B6
                    obtain ⟨nz, ez⟩ := bz.obj
                    rw [el6] at ez
                    injection ez with ez; injection ez with ez1 ez2; cases ez1
                  · refine cj4 (apart H6 B6) fun a1 a2 a3 a4 => ?_
                    exact H6.ext x' (by simpa using a1) (by simpa using a2) (by simpa using a3) (not_tup B6)
                  · rw [List.take_add_one, ep]
                    simpa using B'
                · rintro g₆ m₆ h₆ T₆ zz; refine cj11 zz fun kg6 mr6 mo6 ms6 mp6 mc6 m16 m26 el6 H6 B6 => ?_; clear zz
                  refine s_nil ⟨rfl, g₆, m₆, T₆, kg6, mr6, mo6, ms6, mp6, mc6, H6, B6, ?_, ?_⟩
                  · intro q hq
                    rcases List.mem_append.mp hq with z | z
                    · exact h8 q z
                    · simp at z; subst z; exact jl8
                  · intro q hq
                    rcases List.mem_cons.mp hq with rfl | hq
                    · exact mate_lt ho eb
                    · rcases List.mem_cons.mp hq with rfl | hq
                      · exact mate_lt hr ea
                      · exact p8 q (.tail _ hq)
              · cases be
          · rintro h' zz; refine xj2 zz fun g' m' zz0 => ?_; clear zz; refine cj11 zz0 fun T' kg' mr' mo' ms' mp' zc H' B' h8' p8' => ?_; clear zz0; obtain ⟨tc', mc'⟩ := zc
            refine s_cons (pop_stmt rfl rfl rfl rfl rfl D kg' T' B' (by omega) (R.le (Nat.le_add_left _ _) : Room _ (2 + 6)) mp' (fun g₃ h₃ m₃ T₃' x₃ cu pres => s_nil ?_))
            refine cj4 (apart H' B') fun a1 a2 a3 a4 => ?_
            have kg3 := kpx kg' x₃ (by simpa using hp0)
            have H3 := H'.ext x₃ (by simpa using a1) (by simpa using a2) (by simpa using a3) (not_tup B')
            exact ⟨f, g₃, m₃, Nat.lt_succ_self _, T₃', kg3, (pres _ (by decide) (by decide)).trans mr', (pres _ (by decide) (by decide)).trans mo', (pres _ (by decide) (by decide)).trans ms', (pres _ (by decide) (by decide)).trans mp', hs2, c + 1, tc', pl2, (pres _ (by decide) (by decide)).trans mc', H3, cu, h8', p8', we⟩
  · rintro g m h₇ T₇ zz; refine cj6 zz fun kg mr mo ms mp zz0 => ?_; clear zz; refine xj3 zz0 fun hs c tc zz1 => ?_; clear zz0; refine cj5 zz1 fun mc H B h8 fe => ?_; clear zz1
    rw [show row.drop (tx row).cps.size = [] from List.drop_eq_nil_of_le (by simp [tx]), forP] at fe
    cases fe
    refine s_cons (s_ret (e_tup (a_cons (nmL T₇ ms (a_cons (nmL T₇ mc (a_nil (n_tup fun Tt h₈ k₈ nT eT => ?_))))))))
    exact q _ _ _ _ _ _ (fun _ _ e => k₈ _ _ (T₇.kp _ _ (kg _ _ e))) eT (H.kp fun _ _ e => k₈ _ _ (T₇.kp _ _ e)) h8 hl0 hd0
end
end Mine
end
noncomputable section
open PySem PySem.W PySem.Spec PySem.Calls PyProof.Rows
set_option maxRecDepth 100000
set_option autoImplicit false
namespace Mine
open Pl
theorem ring_mono {pm qm : Nat → Option Nat} : ∀ {f : Nat} {ring r : List Nat} {l : Nat}, ringP pm qm f ring l = some r → ring.length ≤ r.length
  | 0, _, _, _, e => by simp [ringP] at e
  | f + 1, ring, r, l, e => by
    rw [ringP] at e
    split at e
    · cases e; exact Nat.le_refl _
    · split at e
      · cases e
      · split at e
        · cases e
        · have := ring_mono e
          simp at this; omega
theorem ring_ne {pm qm : Nat → Option Nat} {f : Nat} {r : List Nat} {l : Nat} (e : ringP pm qm f [] l = some r) : r ≠ [] := by
  cases f with
  | zero => simp [ringP] at e
  | succ f =>
    rw [ringP] at e
    split at e
    · rename_i h; simp at h
    · split at e
      · cases e
      · split at e
        · cases e
        · have := ring_mono e
          simp at this
          rintro rfl
          simp at this
theorem rings_mono {pm qm : Nat → Option Nat} : ∀ {row : List Nat} {rs rs' : List (List Nat)}, ringsF pm qm row rs = some rs' → ∃ t, rs' = rs ++ t
  | [], rs, rs', e => by simp [ringsF] at e; exact ⟨[], by simp [e]⟩
  | x :: row, rs, rs', e => by
    rw [ringsF] at e
    split at e
    · exact rings_mono e
    · split at e
      · cases e
      · obtain ⟨t, rfl⟩ := rings_mono e
        exact ⟨_, List.append_assoc _ _ _⟩
theorem tx_cat (a b : List Nat) : tx a ++ tx b = tx (a ++ b) := Str.ext' (by show (a.map (97 + ·)).toArray ++ (b.map (97 + ·)).toArray = ((a ++ b).map (97 + ·)).toArray; simp)
theorem lo_tx (j : Nat) : lo j = tx [j] := rfl
section
variable {w : World} {r : Rst} {A : Around} {h : Heap} {env : Env} {Q : Value → Heap → Prop}
theorem t_and {x : Expr} {rest : List Expr} {pos : Pos} {whole : Sem Value} {Q : Bool → Heap → Prop} (p : Wp w r A (isTrue x env (eval x env)) (fun c h' => if c then Wp w r A (isTrue (.BoolOp .And rest pos) env whole) Q h' else Q false h') h) : Wp w r A (isTrue (.BoolOp .And (x :: rest) pos) env whole) Q h :=
  ⟨fun E tk => isTrue_and (p.into fun c h' tk' q => by cases c <;> first | exact ⟨h', tk', rfl, q⟩ | exact Wp.run q E tk')⟩
theorem t_and0 {pos : Pos} {whole : Sem Value} {Q : Bool → Heap → Prop} (q : Q true h) : Wp w r A (isTrue (.BoolOp .And [] pos) env whole) Q h := ⟨fun _ tk => isTrue_and_nil ⟨h, tk, rfl, q⟩⟩
theorem in_tx {cs : List Nat} {c : Nat} : (!(Builtin.Str.occurrences (mk cs) ⟨#[c]⟩ 0 (mk cs).length 1).isEmpty) = decide (c ∈ cs) := by
  rw [StrLaws.found_one, Bool.eq_iff_iff]; simp [mk]; exact decide_eq_true_iff
theorem o_in {cs : List Nat} {c : Nat} {t u : Tok} (q : Q (.bool (decide (c ∈ cs))) h) : Wp w r A (compareOp .In (.str ⟨#[c]⟩ u) (.str (mk cs) t)) Q h := ⟨fun _ tk => P.in_str (s := stt r h tk) ⟨h, tk, rfl, by rw [in_tx]; exact q⟩⟩
theorem o_notIn {cs : List Nat} {c : Nat} {t u : Tok} (q : Q (.bool (!decide (c ∈ cs))) h) : Wp w r A (compareOp .NotIn (.str ⟨#[c]⟩ u) (.str (mk cs) t)) Q h := ⟨fun _ tk => P.notIn_str (s := stt r h tk) ⟨h, tk, rfl, by rw [in_tx]; exact q⟩⟩
theorem m_extend {l : Addr} {vs : List Value} {n : Nat} {pl : Sem Bool} {Q : Value × List Value → Heap → Prop} (e : h.get? l = some (listO vs n)) (q : Q (.builtin "list.extend", [.ref l]) h) : Wp w r A (getMethod (.ref l) "extend" pl) Q h := by
  have z : ∀ tk, Post r Q (.builtin "list.extend", [.ref l]) (stt r h tk) := fun tk => ⟨h, tk, rfl, q⟩
  exact ⟨fun E tk => getMethod_builtin (s := stt r h tk) ⟨_, e, rfl⟩ F.plainAttrs_list F.slot_list_extend F.type_list_extend (fun a ea => by cases ea; exact ⟨_, e, rfl⟩) (z tk)⟩
theorem c_extend {l b : Addr} {vs us : List Value} {n n2 : Nat} (e : h.get? l = some (listO vs n)) (eb : h.get? b = some (listO us n2)) (hz : vs.length + us.length ≤ 1000) (q : ∀ h' n', Ext [l] h h' → h'.get? l = some (listO (vs ++ us) n') → Q .none h') : Wp w r A (call (.builtin "list.extend") [.ref l, .ref b]) Q h := by
  have hs : vs.toArray.size + us.toArray.size ≤ sizeLine := by rw [List.size_toArray, List.size_toArray]; exact Nat.le_trans hz (Nat.le_trans (by decide) szLine)
  refine ⟨fun E tk => call_meets (s := stt r h tk) F.slot_list_extend ⟨_, e, rfl⟩ F.entry_list_extend (F.args_list_extend_2 _ _) (AutoSeq1.list_extend_list_list_0 l vs.toArray n b us.toArray n2 (extend_door hs) (Nat.le_trans (Nat.le_add_right _ _) hs) (Nat.le_succ_of_le hs)) ⟨e, eb, _, tk, rfl, q _ (if (vs.toArray ++ us.toArray).size == vs.toArray.size then n else n + 1) (Mine.Ext.upd _ _ _) ?_⟩⟩
  show (h.update l (Obj.mapSeq fun x => x ++ us.toArray)).get? l = _
  rw [Heap.get?_update_self _ e (by rw [mapSeq_app]; rfl), mapSeq_app]
  simp only [List.append_toArray]
theorem bools {c : Nat} {l : List Nat} : decide (97 + c ∈ l.map (97 + ·)) = l.contains c := by
  rw [Bool.eq_iff_iff]
  simp
theorem rings_ {row order : List Nat} (D : Wd w h) (hr : ∀ j ∈ row, j < 8) (ho : ∀ j ∈ order, j < 8) (lr : row.length ≤ 8) (lo' : order.length ≤ 8) {rs : List (List Nat)} (e : ringsP row order = some rs) (zr : ∀ r ∈ rs, r.length ≤ 8) (zn : rs.length ≤ 8) (zf : rs.flatten.length ≤ 900) {t1 t2 : Tok} {k : Nat} (R : Room A (k + 3))
    (q : ∀ h' ll n zs, Kp h h' → h'.get? ll = some (listO (sv zs) n) → zs.map (·.1) = rs.map (fun r => r.map (97 + ·)) → h.get? ll = none → Q (.ref ll) h') : Wp w r A (call (.ref 360) [.str (tx row) t1, .str (tx order) t2]) Q h := by
  refine callF D R (o := o360 w.params) (binds := [("row", .str (tx row) t1), ("order", .str (tx order) t2)]) (by kernel_rfl) rfl (by kernel_rfl) (fun tk => BindsTo.of_eq rfl) (by rfl) (fun L h₁ hL T R => ?_) (by decide) rfl rfl rfl
  refine s_cons (s_asg (e_list (a_nil (n_list fun ll h₂ k₂ nl e₂ => ?_))))
  refine xcj3 (T.anew0 k₂) fun g₁ T₁ kg₁ ng₁ => ?_
  have el : g₁.get? ll = some (listO []) := ng₁ _ _ nl e₂
  have hl0 : h.get? ll = none := none_of_ext (Ext.of T.kp []) (by simp) nl
  refine stL T₁ fun h₃ T₃ => ?_
  obtain ⟨It, S⟩ := Src.str w (tx row) t1
  refine s_cons (s_for (nmL T₃ rfl (lp_src S R.handled (fun i g m => Kp h g ∧ m "row" = some (.str (tx row) t1) ∧ m "order" = some (.str (tx order) t2) ∧ m "rings" = some (.ref ll) ∧
    ∃ zs n rsi, g.get? ll = some (listO (sv zs) n) ∧ zs.map (·.1) = rsi.map (fun r => r.map (97 + ·)) ∧ ringsF (mate row) (mate order) (row.drop i) rsi = some rs) T₃ ⟨kg₁, rfl, rfl, rfl, [], 0, [], el, rfl, e⟩ (fun _ _ _ _ => trivial) ?_ ?_)))
  · rintro i v I o g m h₇ lt ⟨ch, tch, hch, rfl⟩ T₇ zz; refine cj5 zz fun kg mr mo ml zz0 => ?_; clear zz; refine xj3 zz0 fun zs n rsi zz1 => ?_; clear zz0; refine cj3 zz1 fun ez hz fe => ?_; clear zz1
    obtain ⟨j, hj, rfl⟩ : ∃ j, row[i]? = some j ∧ 97 + j = ch := by rw [tx_at] at hch; simpa using hch
    have j8 : j < 8 := hr j (List.mem_of_getElem? hj)
    obtain ⟨tl, htl⟩ := rings_mono fe
    have hflat : zs.flatMap (·.1) = rsi.flatten.map (97 + ·) := by
      rw [List.flatMap_def, hz, List.map_flatten]
    have hfl : rsi.flatten.length ≤ 900 := by
      have : rs.flatten.length = rsi.flatten.length + tl.flatten.length := by rw [htl]; simp
      omega
    have hzl : zs.length ≤ 8 := by
      have h1 : zs.length = rsi.length := by have := congrArg List.length hz; simpa using this
      have h2 : rs.length = rsi.length + tl.length := by rw [htl]; simp
      omega
    rw [drop_at hj, ringsF] at fe
    refine a_name (stL T₇ fun h₈ T₈ => ?_)
    refine s_cons (s_asg (e_str fun t₃ => stL T₈ fun h₉ T₉ => ?_))
    refine s_seq (fun h' => ∃ m' r, At g L [(I, o)] h' m' ∧ m' "row" = some (.str (tx row) t1) ∧ m' "order" = some (.str (tx order) t2) ∧ m' "rings" = some (.ref ll) ∧ (∃ t, m' "ring" = some (.str (tx []) t)) ∧
      ((r = [] ∧ (∃ t, m' "line" = some (.str "" t)) ∧ ringsF (mate row) (mate order) (row.drop (i + 1)) rsi = some rs) ∨
       (r ≠ [] ∧ (∃ t, m' "line" = some (.str (lo j) t)) ∧ ringP (mate row) (mate order) 10 [] j = some r ∧ ringsF (mate row) (mate order) (row.drop (i + 1)) (rsi ++ [r]) = some rs))) ?_ ?_
    · refine s_asg (e_if (t_cmp (nmL T₉ rfl (c_me fun pq => e_str fun t₄ => g_join (w_bi (a_cons (nmL T₉ ml ?_)))))))
      refine a_nil (c_join0 (T₉.kp _ _ ez) (by rw [hflat, List.length_map]; omega) fun t₅ => o_in (t_bool ?_))
      rw [hflat, bools]
      split at fe
      · rename_i hc
        rw [hc]
        refine e_str fun t₆ => stL T₉ fun h₁₀ T₁₀ => ⟨rfl, _, [], T₁₀, mr, mo, ml, ⟨t₃, rfl⟩, .inl ⟨rfl, ⟨_, rfl⟩, fe⟩⟩
      · rename_i hc
        rw [Bool.not_eq_true] at hc
        rw [hc]
        split at fe
        · cases fe
        rename_i r₀ er
        refine nmL T₉ rfl (stL T₉ fun h₁₀ T₁₀ => ⟨rfl, _, r₀, T₁₀, mr, mo, ml, ⟨t₃, rfl⟩, .inr ⟨ring_ne er, ⟨_, rfl⟩, er, fe⟩⟩)
    · rintro h' zz; refine xj2 zz fun m' r₀ zz0 => ?_; clear zz; refine cj6 zz0 fun T' mr' mo' ml' zc cs => ?_; clear zz0; obtain ⟨t₃', mring⟩ := zc
      have hr8 : r₀.length ≤ 8 := by
        rcases cs with ⟨rfl, _⟩ | ⟨_, _, _, fe'⟩
        · simp
        · obtain ⟨tl', htl'⟩ := rings_mono fe'
          exact zr r₀ (by rw [htl']; simp)
      refine s_seq (fun h' => ∃ m', At g L [(I, o)] h' m' ∧ m' "row" = some (.str (tx row) t1) ∧ m' "order" = some (.str (tx order) t2) ∧ m' "rings" = some (.ref ll) ∧ ∃ t, m' "ring" = some (.str (tx r₀) t)) ?_ ?_
      · refine s_while (fun f g' m => g' = g ∧ m "row" = some (.str (tx row) t1) ∧ m "order" = some (.str (tx order) t2) ∧ m "rings" = some (.ref ll) ∧ ∃ ring t, m "ring" = some (.str (tx ring) t) ∧
          ((ring = r₀ ∧ ∃ t, m "line" = some (.str "" t)) ∨ ∃ l t', l < 8 ∧ m "line" = some (.str (lo l) t') ∧ ringP (mate row) (mate order) f ring l = some r₀)) T' (n := 10) ⟨rfl, mr', mo', ml', [], t₃', mring, ?_⟩ ?_
        · rcases cs with ⟨rfl, z, _⟩ | ⟨_, ⟨t, z⟩, er, _⟩
          · exact .inl ⟨rfl, z⟩
          · exact .inr ⟨j, t, j8, z, er⟩
        · rintro f g' m hh Tw zz; refine cj5 zz fun zc mr mo ml zz0 => ?_; clear zz; refine xj2 zz0 fun ring t zz1 => ?_; clear zz0; refine cj2 zz1 fun m1 cs => ?_; clear zz1; subst zc
          rcases cs with ⟨rfl, t', m2⟩ | ⟨l, t', l8, m2, er⟩
          · refine t_and (t_val (nmL Tw m2 (t_str (by decide) ?_)))
            exact ⟨rfl, m, Tw, mr, mo, ml, t, m1⟩
          · refine t_and (t_val (nmL Tw m2 (t_str (by show 1 ≤ 1000; decide) ?_)))
            refine t_and (t_cmp (nmL Tw m2 (nmL Tw m1 (o_notIn (cs := ring.map (97 + ·)) (t_bool ?_)))))
            rw [bools]
            cases f with
            | zero => simp [ringP] at er
            | succ f =>
              rw [ringP] at er
              split at er
              · rename_i hc
                cases er
                rw [hc]
                exact ⟨rfl, m, Tw, mr, mo, ml, t, m1⟩
              · rename_i hc
                rw [Bool.not_eq_true] at hc
                rw [hc]
                split at er
                · cases er
                rename_i y ey
                split at er
                · cases er
                rename_i z ez'
                have rm := ring_mono er
                simp only [List.length_append, List.length_cons, List.length_nil] at rm
                have y8 := mate_lt ho ey
                have z8 := mate_lt hr ez'
                obtain ⟨i1, f1, l1, g1⟩ := mate_idx ey
                obtain ⟨i2, f2, l2, g2⟩ := mate_idx ez'
                have x1 : i1 ^^^ 1 < order.length := (List.getElem?_eq_some_iff.mp g1).1
                have x2 : i2 ^^^ 1 < row.length := (List.getElem?_eq_some_iff.mp g2).1
                refine t_and0 ?_
                refine s_cons (s_asg (e_sub (nmL Tw mo (e_bin (c_me fun pq => nmL Tw mo (g_index (w_bi (a_cons (nmL Tw m2 (a_nil (c_index f1 fun ta => e_int fun tb => o_xori fun tc => ?_)))))))))))
                rw [xor_at i1 (by omega)]
                refine sub_str (c := 97 + y) (by omega) (by rw [tx_at, g1]; rfl) (fun td => stL Tw fun h₁ T₁ => ?_)
                refine s_cons (s_aug (ldL T₁ m1 (e_bin (nmL T₁ m2 (nmL T₁ rfl (o_adds (by show 2 ≤ 2000; decide) fun te => ?_))))))
                refine o_iadds (x := tx ring) (y := tx [l] ++ tx [y]) (by rw [tx_cat, tx_cat]; show (tx (ring ++ [l, y])).cps.size ≤ 2000; simp [tx]; omega) (fun tf => stL T₁ fun h₂ T₂ => ?_)
                refine s_cons (s_asg (e_sub (nmL T₂ mr (e_bin (c_me fun pq => nmL T₂ mr (g_index (w_bi (a_cons (nmL T₂ rfl (a_nil (c_index (j := y) f2 fun tg => e_int fun th => o_xori fun ti => ?_)))))))))))
                rw [xor_at i2 (by omega)]
                refine sub_str (c := 97 + z) (by omega) (by rw [tx_at, g2]; rfl) (fun tj => stL T₂ fun h₃ T₃ => s_nil ?_)
                refine ⟨f, g', _, Nat.lt_succ_self _, T₃, rfl, mr, mo, ml, ring ++ [l, y], tf, ?_, .inr ⟨z, tj, z8, rfl, er⟩⟩
                show some (Value.str (tx ring ++ (tx [l] ++ tx [y])) tf) = _
                rw [tx_cat, tx_cat]; rfl
      · rintro h'' zz; refine xj1 zz fun m2 zz0 => ?_; clear zz; refine cj5 zz0 fun T2 mr2 mo2 ml2 zz1 => ?_; clear zz0; refine xj1 zz1 fun tr mring2 => ?_; clear zz1
        have hzs : (sv zs).length ≤ 8 := by simp [sv]; omega
        have fin : ∀ h₃ h₄ us n' n'' lb, Kp h'' h₃ → h₃.get? lb = some (listO us n'') → Ext [ll] h₃ h₄ → h₄.get? ll = some (listO (sv zs ++ us) n') → (∃ zs' rsi', sv zs ++ us = sv zs' ∧ zs'.map (·.1) = rsi'.map (fun r => r.map (97 + ·)) ∧ ringsF (mate row) (mate order) (row.drop (i + 1)) rsi' = some rs) →
            ∃ g' m', At g' L [(I, o)] h₄ m' ∧ Kp h g' ∧ m' "row" = some (.str (tx row) t1) ∧ m' "order" = some (.str (tx order) t2) ∧ m' "rings" = some (.ref ll) ∧
              ∃ zs n rsi, g'.get? ll = some (listO (sv zs) n) ∧ zs.map (·.1) = rsi.map (fun r => r.map (97 + ·)) ∧ ringsF (mate row) (mate order) (row.drop (i + 1)) rsi = some rs := by
          rintro h₃ h₄ us n' n'' lb k₃ eb x₄ e₄ zz; refine xj2 zz fun zs' rsi' zz0 => ?_; clear zz; refine cj3 zz0 fun ea eb' ec => ?_; clear zz0
          refine xcj3 ((T2.ext k₃).anew x₄ (fun a ha => by rw [List.mem_singleton.mp ha]; exact ⟨_, ez⟩)) fun g' T' x' nw => ?_
          exact ⟨g', m2, T', kpx kg x' (by simpa using hl0), mr2, mo2, ml2, zs', n', rsi', nw _ _ (.inr (by simp)) (by rw [← ea]; exact e₄), eb', ec⟩
        refine s_cons (s_expr (c_me fun pq => nmL T2 ml2 (m_extend (T2.kp _ _ ez) (w_bi (a_cons (e_if (t_val (nmL T2 mring2 (t_str (by show (tx r₀).cps.size ≤ 1000; simp [tx]; omega) ?_)))))))))
        rcases cs with ⟨rfl, _, fe'⟩ | ⟨hne, _, _, fe'⟩
        · refine e_list (a_nil (n_list fun lb h₃ k₃ nb eb => a_nil ?_))
          refine c_extend (k₃ _ _ (T2.kp _ _ ez)) eb (by simp; omega) fun h₄ n' x₄ e₄ => s_nil (fin h₃ h₄ [] n' 0 lb k₃ eb x₄ e₄ ⟨zs, rsi, by simp, hz, fe'⟩)
        · have hlen : (((tx r₀).length : Int) != 0) = true := by
            have : (tx r₀).length = r₀.length := by show (tx r₀).cps.size = _; simp [tx]
            rw [this]
            cases r₀ with
            | nil => exact absurd rfl hne
            | cons a b => simp; omega
          rw [hlen]
          refine e_list (a_cons (nmL T2 mring2 (a_nil (n_list fun lb h₃ k₃ nb eb => a_nil ?_))))
          refine c_extend (k₃ _ _ (T2.kp _ _ ez)) eb (by simp; omega) fun h₄ n' x₄ e₄ => s_nil (fin h₃ h₄ _ n' 0 lb k₃ eb x₄ e₄ ⟨zs ++ [(r₀.map (97 + ·), tr)], rsi ++ [r₀], ?_, ?_, fe'⟩)
          · simp [sv]; rfl
          · rw [List.map_append, hz]; simp
  · rintro g m h₇ T₇ zz; refine cj5 zz fun kg mr mo ml zz0 => ?_; clear zz; refine xj3 zz0 fun zs n rsi zz1 => ?_; clear zz0; refine cj3 zz1 fun ez hz fe => ?_; clear zz1
    rw [show row.drop (tx row).cps.size = [] from List.drop_eq_nil_of_le (by simp [tx]), ringsF] at fe
    cases fe
    exact s_cons (s_ret (nmL T₇ ml (q _ _ _ _ (fun _ _ e => T₇.kp _ _ (kg _ _ e)) (T₇.kp _ _ ez) hz hl0)))
end
end Mine
end
noncomputable section
open PySem PySem.W PySem.Spec PySem.Calls PyProof.Rows
set_option maxRecDepth 100000
set_option autoImplicit false
namespace Mine
open Pl
abbrev envC (qual : Str) (scope : Scope) (L f : Addr) (cdv : Value) : Env := envX qual scope L f cdv (cellsFrom (L + 1) scope.names [])
theorem callFC {w : World} {r : Rst} {A : Around} {h : Heap} {f : Addr} {o : Obj} {name qual : Str} {params : Arguments} {body : List Stmt} {scope : Scope} {dV kV doc pm cdv ct : Value} {an : Option Addr} {vals : List Value} {binds : List (Str × Value)} {k : Nat} {Q : Value → Heap → Prop}
    (D : Wd w h) (R : Room A (k + 1)) (ho : (K0 w.params).lookup f = some o) (hd : o.data = .func (fnX name qual params body scope [] dV kV doc pm an cdv ct)) (hcd : codeIn (K0 w.params) cdv qual = true)
    (hbind : bindArgs (fnX name qual params body scope [] dV kV doc pm an cdv ct) ⟨vals, []⟩ = pure binds)
    (hkind : ∀ n : Nat, ∀ x ∈ binds, scope.names.lookup x.1 = some .local ∨ (scope.names.lookup x.1 = some .cell ∧ ((cellsFrom (n + 1) scope.names []).lookup x.1).isSome = true))
    (p : ∀ L h₁ g, h.get? L = none → Kp h g → At g L [] h₁ (bindL (envC qual scope L f cdv).kindOf binds fun _ => none) →
      (∀ n c, (cellsFrom (L + 1) scope.names []).lookup n = some c → g.IsCell c (bindC (envC qual scope L f cdv).kindOf binds (fun _ => none) n) ∧ h.get? c = none) → Room (A.deeper (envC qual scope L f cdv)) k →
      Wp w r (A.deeper (envC qual scope L f cdv)) (execs body (envC qual scope L f cdv)) (fun fl h' => Q (match fl with | .ret v => v | _ => .none) h') h₁)
    (hco : scope.isCoroutine = false) (hgen : scope.isGenerator = false) (hkf : scope.kind = .function) :
    Wp w r A (call (.ref f) vals []) Q h := by
  refine ⟨fun E tk => wpAny_call (codeAny_call_cells (s := stt r h tk) (fd := fnX name qual params body scope [] dV kV doc pm an cdv ct) (body := body) (binds := binds) (Nat.lt_of_le_of_lt (Nat.le_add_right _ _) R.depth) (D.X _ _ ho) hd D.lim (codeRec_of D.X hcd) rfl hbind rfl (hkind _) (fun s₁ x => ?_) hco hgen hkf)⟩
  obtain ⟨h₁, tk₁, rfl⟩ := x.toInCall.same
  have L0 : h.get? h.objs.size = none := fresh_none fun _ _ e => e
  have hns : h₁.Ns h.objs.size (bindL (envC qual scope h.objs.size f cdv).kindOf binds fun _ => none) := x.toInCall.ns
  have T0 : At h h.objs.size [] h₁ (bindL (envC qual scope h.objs.size f cdv).kindOf binds fun _ => none) := ⟨hns, fun b o e => x.toInCall.keep b o e, L0, fun _ q => nomatch q⟩
  obtain ⟨g, T, kg, all⟩ := T0.all
  have hc : ∀ n c, (cellsFrom (h.objs.size + 1) scope.names []).lookup n = some c → g.IsCell c (bindC (envC qual scope h.objs.size f cdv).kindOf binds (fun _ => none) n) ∧ h.get? c = none := fun n c e => by
    obtain ⟨o, eo, ed⟩ := x.cell n c e
    have hlt : h.objs.size < c := x.above n c (mem_of_lookup e)
    refine ⟨⟨o, all c o (Nat.ne_of_gt hlt) (fun _ q => nomatch q) eo, ed⟩, ?_⟩
    cases q : h.get? c with
    | none => rfl
    | some o' => exact absurd (Heap.lt_size q) (Nat.not_lt.mpr (Nat.le_of_lt hlt))
  exact (p h.objs.size h₁ g L0 kg T hc (R.deeper _)).into fun fl h' tk' q => ⟨h', tk', rfl, q⟩
section
variable {w : World} {r : Rst} {A : Around} {g h : Heap} {env : Env} {L : Addr} {P : List (Addr × Obj)} {m : Str → Option Value} {x : Str} {pos : Pos} {v : Value} {Q : Value → Heap → Prop}
theorem gCell {c : Addr} (T : At g L P h m) (hv : g.IsCell c (some v)) (q : Q v h) (hc : env.cells.lookup x = some c := by rfl)
    (hk : env.scope.kind = .function := by rfl) (hx : env.kindOf x = some .cell := by rfl) (hd : (x == ("__debug__" : Str)) = false := by decide) :
    Wp w r A (eval (.Name x pos) env) Q h := ⟨fun _ tk => wpAny_Name (wpAny_loadName_cell (s := stt r h tk) hk hx hc (hv.keeps T.kp) ⟨h, tk, rfl, q⟩) hd⟩
theorem sCell {c : Addr} {v₀ : Option Value} {Q : Unit → Heap → Prop} (T : At g L P h m) (hv : g.IsCell c v₀) (q : ∀ g' h', At g' L P h' m → Ext [c] g g' → g'.IsCell c (some v) → Q () h') (hc : env.cells.lookup x = some c := by rfl)
    (hk : env.scope.kind = .function := by rfl) (hx : env.kindOf x = some .cell := by rfl) :
    Wp w r A (storeName env x v) Q h := ⟨fun _ tk => wpAny_storeName_cell (s := stt r h tk) hk hx hc (hv.keeps T.kp) fun h' hc' hs => ⟨h', tk, rfl, by
      obtain ⟨o, eo, ed⟩ := hv
      obtain ⟨g', T', x', nw⟩ := T.anew (Ext.sameBut hs) (fun a ha => by rw [List.mem_singleton.mp ha]; exact ⟨_, eo⟩)
      obtain ⟨o', eo', ed'⟩ := hc'
      exact q g' h' T' x' ⟨o', nw _ _ (.inr (by simp)) eo', ed'⟩⟩⟩
end
section
variable {w : World} {r : Rst} {A : Around} {h : Heap} {env : Env} {Q : Value → Heap → Prop}
theorem c_len {x : Str} {t : Tok} (hz : x.length ≤ 1000) (q : ∀ t', Q (.int x.length t') h) : Wp w r A (call (.builtin "len") [.str x t]) Q h := ⟨fun _ tk => P.len_str (s := stt r h tk) (by omega) ⟨h, _, rfl, q _⟩⟩
theorem o_divi {a b : Int} {t u : Tok} (hb : b ≠ 0) (hs : b.natAbs < 100000) (q : ∀ t', Q (.int (a.fdiv b) t') h) : Wp w r A (binaryOp .FloorDiv (.int a t) (.int b u)) Q h :=
  ⟨fun _ tk => PyProof.Rows.floordiv_int (s := stt r h tk) hb ⟨h, tk + 1, rfl, q _⟩ (.inl (PyProof.noPylong_small (Nat.lt_trans hs (by decide))))⟩
theorem o_idivi {a b : Int} {t u : Tok} (hb : b ≠ 0) (hs : b.natAbs < 100000) (q : ∀ t', Q (.int (a.fdiv b) t') h) : Wp w r A (inplaceOp .FloorDiv (.int a t) (.int b u)) Q h :=
  ⟨fun _ tk => PyProof.Rows.ifloordiv_int (s := stt r h tk) hb ⟨h, tk + 1, rfl, q _⟩ (.inl (PyProof.noPylong_small (Nat.lt_trans hs (by decide))))⟩
theorem o_muli {a b : Int} {t u : Tok} (ha : Builtin.Int.intBits a ≤ 64) (q : ∀ t', Q (.int (a * b) t') h) : Wp w r A (binaryOp .Mult (.int a t) (.int b u)) Q h :=
  ⟨fun _ tk => PyProof.Rows.mul_int (s := stt r h tk) ⟨h, tk + 1, rfl, q _⟩ (.of_left ha)⟩
theorem e_slice {lower upper step : Option Expr} {p : Pos} (k : Wp w r A (evalPart lower env) (fun l h₁ => Wp w r A (evalPart upper env) (fun u h₂ => Wp w r A (evalPart step env) (fun st h₃ =>
      ∀ sl h', Kp h₃ h' → h'.get? sl = some { cls := .type "slice", data := .fields #[l, u, st] } → Q (.ref sl) h') h₂) h₁) h) : Wp w r A (eval (.Slice lower upper step p) env) Q h :=
  ⟨fun E _ => wpAny_Slice (k.into fun _ _ _ k => k.into fun _ _ _ k => k.into fun _ h₃ tk₃ k => ⟨_, tk₃, rfl, k _ _ (kpush _ _) (Heap.get?_push_size _ rfl)⟩)⟩
theorem ep_none (q : Q .none h) : Wp w r A (evalPart none env) Q h := ⟨fun _ tk => wpAny_pure ⟨h, tk, rfl, q⟩⟩
theorem ep_some {e : Expr} (p : Wp w r A (eval e env) Q h) : Wp w r A (evalPart (some e) env) Q h := p
theorem sub_slice {value slice : Expr} {x y : Str} {t : Tok} {sl : Addr} {l u st : Option (Int × Tok)} {ops : List Value} (e : h.get? sl = some { cls := .type "slice", data := .fields #[partValue l, partValue u, partValue st] }) (h0 : ((st.map (·.1)).getD 1 == 0) = false)
    (hy : ⟨((slicePicked x l u st).filterMap (x.cps[·]?)).toArray⟩ = y) (hfull : (slicePicked x l u st).length = x.length → (st.map (·.1)).getD 1 = 1 → x = y) (hz : y.length ≤ 2000) (q : ∀ t', Q (.str y t') h)
    (hs : subscripted slice false (.str x t) (.ref sl) = operate ops (getItem (.str x t) (.ref sl)) := by with_unfolding_all rfl)
    (ht : ∀ r, letTemporaryGo value (.str x t) r = Pure.pure () := by intro _; with_unfolding_all rfl) : Wp w r A (subscriptTail value slice (.str x t) (.ref sl)) Q h := by
  refine ⟨fun E tk => tail_of_ItemOn ⟨"str", _, F.slot_str_getitem.lookup, typeIs_str _ _ _, wpAny_getItem_str_slice (s := stt r h tk) (l := l) (u := u) (st := st) ⟨_, e, rfl, rfl⟩ h0 ?_⟩ hs ht⟩
  unfold sliceMade
  split
  · rename_i hc
    simp only [Bool.and_eq_true, beq_iff_eq] at hc
    have := hfull hc.2 hc.1
    exact ⟨h, tk, rfl, by have := q t; rw [← hfull hc.2 hc.1] at this; exact this⟩
  · rw [hy]
    exact ⟨Nat.le_trans hz szLine, h, tk + 1, rfl, q _⟩
end
theorem picks1 : ((List.range 21).all fun n => (List.range (n + 1)).all fun b => (List.range (b + 1)).all fun a => Builtin.Str.strSliceIndices (some (a : Int)) (some (b : Int)) 1 n == (List.range (b - a)).map (a + ·) && (b != n || Builtin.Str.strSliceIndices (some (a : Int)) none 1 n == (List.range (b - a)).map (a + ·))) = true := by decide +kernel
theorem filt : ∀ (k a : Nat) (cs : List Nat), a + k ≤ cs.length → ((List.range k).map (a + ·)).filterMap (cs[·]?) = (cs.drop a).take k
  | 0, a, cs, _ => by simp
  | k + 1, a, cs, h => by
    rw [List.range_succ, List.map_append, List.filterMap_append, filt k a cs (by omega), List.take_add_one]
    congr 1
    simp only [List.map_cons, List.map_nil, List.filterMap_cons, List.filterMap_nil, List.getElem?_drop]
    have : cs[a + k]? = some cs[a + k] := List.getElem?_eq_getElem (by omega)
    rw [this]; rfl
theorem slice_ab {cs : List Nat} {a b : Nat} (hl : cs.length ≤ 20) (hab : a ≤ b) (hb : b ≤ cs.length) (t u : Tok) :
    (⟨((slicePicked (mk cs) (some ((a : Int), t)) (some ((b : Int), u)) none).filterMap ((mk cs).cps[·]?)).toArray⟩ : Str) = mk ((cs.drop a).take (b - a)) ∧
    ((slicePicked (mk cs) (some ((a : Int), t)) (some ((b : Int), u)) none).length = (mk cs).length → mk cs = mk ((cs.drop a).take (b - a))) ∧
    (b = cs.length → slicePicked (mk cs) (some ((a : Int), t)) none none = slicePicked (mk cs) (some ((a : Int), t)) (some ((b : Int), u)) none) := by
  have hn : (mk cs).length = cs.length := by show cs.toArray.size = _; simp
  have h1 := List.all_eq_true.mp (List.all_eq_true.mp (List.all_eq_true.mp picks1 cs.length (List.mem_range.mpr (by omega))) b (List.mem_range.mpr (by omega))) a (List.mem_range.mpr (by omega))
  rw [Bool.and_eq_true, beq_iff_eq] at h1
  have e : slicePicked (mk cs) (some ((a : Int), t)) (some ((b : Int), u)) none = (List.range (b - a)).map (a + ·) := by
    show Builtin.Str.strSliceIndices (some (a : Int)) (some (b : Int)) 1 (mk cs).length = _
    rw [hn]; exact h1.1
  refine ⟨?_, ?_, ?_⟩
  · rw [e]
    have : ∀ i : Nat, (mk cs).cps[i]? = cs[i]? := fun i => by simp [mk]
    rw [show ((mk cs).cps[·]?) = (cs[·]?) from funext this, filt _ _ _ (by omega)]; rfl
  · rw [e, hn, List.length_map, List.length_range]
    intro h
    have ha : a = 0 := by omega
    subst ha
    rw [List.drop_zero, List.take_of_length_le (by omega)]
  · intro hbn
    rw [e]
    show Builtin.Str.strSliceIndices (some (a : Int)) none 1 (mk cs).length = _
    rw [hn]
    have := h1.2
    rw [hbn] at this ⊢
    simpa using this
end Mine
end
noncomputable section
open PySem PySem.W PySem.Spec PySem.Calls PyProof.Rows
set_option maxRecDepth 100000
set_option autoImplicit false
namespace Mine
open Pl
def RiterAt (a c : Int) (n i : Nat) (o : Obj) : Prop := o = { cls := .type "range_iterator", dict := none, data := .fields #[rawInt (a + (i : Int) * c), rawInt ((n : Int) - (i : Int)), rawInt c], slots := #[] }
theorem noOwnedN {w : World} {r : Rst} {A : Around} {h : Heap} {I : Addr} {o : Obj} {t : Expr} {v : Value} {n : String} {vs : Array Value} {Q : Unit → Heap → Prop} (e : h.get? I = some o) (hc : o.cls = .type n) (hn : ["enumerate", "zip", "dict_itemiterator", "dict_reverseitemiterator", "odict_iterator", "itertools.zip_longest", "itertools.pairwise"].contains n = false) (hd : o.data = .fields vs) (q : Q () h) : Wp w r A (letOwnedTupleGo t (.ref I) v) Q h := by
  refine ⟨fun E tk => ?_⟩
  unfold letOwnedTupleGo
  cases t <;> first
    | exact wpAny_pure ⟨h, tk, rfl, q⟩
    | (cases v <;> first
       | exact wpAny_pure ⟨h, tk, rfl, q⟩
       | (refine wpAny_bind (wpAny_load (s := stt r h tk) e ?_)
          rw [hc, hd]
          dsimp only
          rw [hn, Bool.false_and, if_neg (by decide)]
          exact wpAny_pure ⟨h, tk, rfl, q⟩))
theorem Src.range (w : World) (rg : Addr) (a b c : Int) (n : Nat) (hs : Builtin.Range.rangeSize a b c = n) (hsm : Builtin.Range.small a b c = true) : Src w (.ref rg) n (fun i v => ∃ t, v = .int (a + (i : Int) * c) t) (RiterAt a c n) (fun h => ∃ t u v, IsRange h rg a b c t u v) where
  keep := fun h h' ⟨t, u, v, e⟩ k => ⟨t, u, v, k _ _ e⟩
  iter := fun r A h Q ⟨t, u, v, e⟩ q => ⟨fun E tk => wpAny_pyIter_range (s := stt r h tk) e hsm ⟨_, tk, rfl, q _ _ _ (kpush _ _) (fresh_none fun _ _ e => e) (Heap.get?_push_size _ rfl) (by
    unfold RiterAt
    rw [hs]
    simp)⟩⟩
  self := fun r A h I o i Q _ e it q => ⟨fun E tk => by
    unfold RiterAt at it
    subst it
    exact wpAny_pyIter_rangeiter (s := stt r h tk) e ⟨h, tk, rfl, q⟩⟩
  item := fun r A h I o i Q _ eI it lt q => ⟨fun E tk => by
    unfold RiterAt at it
    subst it
    refine wpAny_pyNext_range_item (s := stt r h tk) eI (by omega) fun h' it' hs => ⟨h', tk + 1, rfl, q _ h' _ ⟨_, rfl⟩ (.sameBut hs) it' ?_⟩
    unfold RiterAt
    have e1 : a + ((i + 1 : Nat) : Int) * c = a + (i : Int) * c + c := by push_cast; rw [Int.add_mul, Int.one_mul, Int.add_assoc]
    have e2 : (n : Int) - ((i + 1 : Nat) : Int) = (n : Int) - (i : Int) - 1 := by push_cast; omega
    rw [e1, e2]⟩
  done := fun r A h I o Q hh _ eI it q => ⟨fun E tk => by
    unfold RiterAt at it
    subst it
    exact wpAny_pyNext_range_end (s := stt r h tk) hh eI (by omega) fun h' x => ⟨h', tk, rfl, q h' fun b o nb e => x b o (by simpa using nb) e⟩⟩
  owned := fun r A h I o i t v Q e it q => by
    unfold RiterAt at it
    subst it
    exact noOwnedN e rfl (by decide +kernel) rfl q
section
variable {w : World} {r : Rst} {A : Around} {h : Heap} {env : Env} {Q : Value → Heap → Prop}
theorem c_range1 {n : Int} {t : Tok} (q : ∀ rg h' u v, Kp h h' → h.get? rg = none → IsRange h' rg 0 n 1 u t v → Q (.ref rg) h') : Wp w r A (call (.type "range") [.int n t]) Q h :=
  ⟨fun E tk => call_range_1 (s := stt r h tk) ⟨_, _, rfl, q _ _ _ _ (kpush _ _) (fresh_none fun _ _ e => e) (IsRange.new _ _ _ _ _ _ _)⟩⟩
theorem c_range3 {a b c : Int} {t u v : Tok} (hc : c ≠ 0) (hs : c.natAbs < 100000) (q : ∀ rg h', Kp h h' → h.get? rg = none → IsRange h' rg a b c t u v → Q (.ref rg) h') : Wp w r A (call (.type "range") [.int a t, .int b u, .int c v]) Q h :=
  ⟨fun E tk => call_range_3 (s := stt r h tk) hc ⟨_, _, rfl, q _ _ (kpush _ _) (fresh_none fun _ _ e => e) (IsRange.new _ _ _ _ _ _ _)⟩ (.inl (PyProof.noPylong_small (Nat.lt_trans hs (by decide))))⟩
theorem range_size (n : Nat) : Builtin.Range.rangeSize 0 (n : Int) 1 = n := by rw [rangeSize_one]; split <;> omega
theorem range_small (n : Nat) (h : n ≤ 1000) : Builtin.Range.small 0 (n : Int) 1 = true := small_one (by decide) (by decide) (by omega) (by omega)
end
def zipO (f0 : Value) (TI TO : Addr) : Obj := { cls := .type "zip", dict := none, data := .fields #[f0, .bool false, .bool false, .ref TI, .ref TO], slots := #[] }
namespace F3
theorem typeCall_zip_3 (a b c : Value) : checkTypeCall "zip" ⟨[a, b, c], []⟩ = pure () := by kernel_rfl
theorem newCall_zip_3 (a b c : Value) : checkBuiltinCall "zip.__new__" ⟨[.type "zip", a, b, c], []⟩ = pure () := by kernel_rfl
theorem args_object_init_4 (a b c d : Value) : argsOk "object.__init__" ⟨[a, b, c, d], []⟩ := by
  unfold argsOk; rw [signature?_of (id := "object.__init__") (n := ['_', '_', 't', 'i', 'n', 'i', '_', '_']) (o := ['t', 'c', 'e', 'j', 'b', 'o']) (by kernel_rfl) F.owner_object]; kernel_rfl
end F3
abbrev sitO (x : Str) (t : Tok) : Obj := { cls := .type "str_ascii_iterator", data := .fields #[.str x t, .int 0 0] }
abbrev z1 (h : Heap) (x1 : Str) (t1 : Tok) : Heap := h.push (sitO x1 t1)
abbrev z2 (h : Heap) (x1 x2 : Str) (t1 t2 : Tok) : Heap := (z1 h x1 t1).push (sitO x2 t2)
abbrev z3 (h : Heap) (x1 x2 x3 : Str) (t1 t2 t3 : Tok) : Heap := (z2 h x1 x2 t1 t2).push (sitO x3 t3)
abbrev z4 (h : Heap) (x1 x2 x3 : Str) (t1 t2 t3 : Tok) : Heap := (z3 h x1 x2 x3 t1 t2 t3).push (tupO [.ref h.objs.size, .ref (z1 h x1 t1).objs.size, .ref (z2 h x1 x2 t1 t2).objs.size])
abbrev z5 (h : Heap) (x1 x2 x3 : Str) (t1 t2 t3 : Tok) : Heap := (z4 h x1 x2 x3 t1 t2 t3).push (tupO [.none, .none, .none])
abbrev z6 (h : Heap) (x1 x2 x3 : Str) (t1 t2 t3 : Tok) : Heap := (z5 h x1 x2 x3 t1 t2 t3).push (zipO .none (z3 h x1 x2 x3 t1 t2 t3).objs.size (z4 h x1 x2 x3 t1 t2 t3).objs.size)
theorem meets_zip3 (x1 x2 x3 : Str) (t1 t2 t3 : Tok) (a1 : x1.cps.all (· < 128) = true) (a2 : x2.cps.all (· < 128) = true) (a3 : x3.cps.all (· < 128) = true) :
    Meets (Builtin.«zip.__new__» ⟨[.type "zip", .str x1 t1, .str x2 t2, .str x3 t3], []⟩) (fun _ R s => R (.ok (.ret (.ref (z5 s.heap x1 x2 x3 t1 t2 t3).objs.size))) { s with heap := z6 s.heap x1 x2 x3 t1 t2 t3 }) :=
  .of_wp fun prog w A R s h => by
    have hsub := sub_zip
    unfold Builtin.«zip.__new__»
    repeat (first | with_reducible refine wpAny_pyIter_ascii a1 ?_ | with_reducible refine wpAny_pyIter_ascii a2 ?_ | with_reducible refine wpAny_pyIter_ascii a3 ?_ | lk)
    exact ⟨_, rfl, h⟩
abbrev trO (a b c : Value) : Obj := { cls := .type "tuple", data := .seq #[a, b, c] }
theorem upd_trip {w : World} {A : Around} {E : Value → Shared → Prop} {s : Shared} {T : Addr} {a b c x : Value} {k : Nat} {Q : Unit → Shared → Prop} (hT : s.heap.get? T = some (trO a b c))
    (h : ∀ h', h'.get? T = some { cls := .type "tuple", data := .seq ((#[a, b, c] : Array Value).setIfInBounds k x) } → Heap.SameBut T s.heap h' → Q () { s with heap := h' }) :
    wpAny (Md w) A (updateSeq T (·.setIfInBounds k x)) Q E s := by
  refine wpAny_updateSeq hT rfl (h _ ?_ (Heap.SameBut.update ..))
  rw [Heap.get?_update_self _ hT rfl]
  simp [Obj.mapSeq]
theorem nth_ascii {w : World} {A : Around} {E : Value → Shared → Prop} {r : Rst} {h : Heap} {tk : Nat} {it : Addr} {x : Str} {t : Tok} {i c : Nat} {o : Obj} {Q : Value → Shared → Prop} (e : h.get? it = some o) (st : SiterAt "str_ascii_iterator" x t i o) (hx : x.cps[i]? = some c)
    (hQ : ∀ h' o', h'.get? it = some o' → SiterAt "str_ascii_iterator" x t (i + 1) o' → Heap.SameBut it h h' → Q (.str ⟨#[c]⟩ tk) (stt r h' (tk + 1))) :
    wpAny (Md w) A (Builtin.SmallTypes.nextOf (.ref it)) Q E (stt r h tk) :=
  wpAny_nextOf_ascii_item (s := stt r h tk) ⟨o, e, st.1, st.2⟩ hx fun h' it' hs => by
    obtain ⟨o', e', c', d'⟩ := it'
    exact hQ h' o' e' ⟨c', d'⟩ hs
def ItZip (x1 x2 x3 : Str) (t1 t2 t3 : Tok) (i : Nat) (I : Addr) (G : List (Addr × Obj)) : Prop := ∃ TI TO i1 i2 i3 o1 o2 o3 a b c, [I, TI, TO, i1, i2, i3].Nodup ∧
  G = [(I, zipO .none TI TO), (TI, trO (.ref i1) (.ref i2) (.ref i3)), (TO, trO a b c), (i1, o1), (i2, o2), (i3, o3)] ∧ SiterAt "str_ascii_iterator" x1 t1 i o1 ∧ SiterAt "str_ascii_iterator" x2 t2 i o2 ∧ SiterAt "str_ascii_iterator" x3 t3 i o3
theorem zip_item {w : World} {r : Rst} {A : Around} {h : Heap} {E : Value → Shared → Prop} {tk : Nat} {z TI TO i1 i2 i3 : Addr} {x1 x2 x3 : Str} {t1 t2 t3 : Tok} {i c1 c2 c3 : Nat} {o1 o2 o3 : Obj} {a b c : Value} {Q : Value → Shared → Prop} (nd : [z, TI, TO, i1, i2, i3].Nodup)
    (hz : h.get? z = some (zipO .none TI TO)) (hTI : h.get? TI = some (trO (.ref i1) (.ref i2) (.ref i3))) (hTO : h.get? TO = some (trO a b c)) (e1 : h.get? i1 = some o1) (e2 : h.get? i2 = some o2) (e3 : h.get? i3 = some o3)
    (s1 : SiterAt "str_ascii_iterator" x1 t1 i o1) (s2 : SiterAt "str_ascii_iterator" x2 t2 i o2) (s3 : SiterAt "str_ascii_iterator" x3 t3 i o3) (hx1 : x1.cps[i]? = some c1) (hx2 : x2.cps[i]? = some c2) (hx3 : x3.cps[i]? = some c3)
    (hQ : ∀ h' T tk' u1 u2 u3 o1' o2' o3' a b c, h.get? T = none → h'.get? T = some (trO (.str ⟨#[c1]⟩ u1) (.str ⟨#[c2]⟩ u2) (.str ⟨#[c3]⟩ u3)) → h'.get? z = some (zipO (rawInt T) TI TO) → h'.get? TI = some (trO (.ref i1) (.ref i2) (.ref i3)) → h'.get? TO = some (trO a b c) →
      h'.get? i1 = some o1' → h'.get? i2 = some o2' → h'.get? i3 = some o3' → SiterAt "str_ascii_iterator" x1 t1 (i + 1) o1' → SiterAt "str_ascii_iterator" x2 t2 (i + 1) o2' → SiterAt "str_ascii_iterator" x3 t3 (i + 1) o3' →
      Ext [z, TO, i1, i2, i3] h h' → Q (.ref T) (stt r h' tk')) :
    wpAny (Md w) A (Builtin.«zip.__next__» ⟨[.ref z], []⟩) (fun fin s' => ∃ v, fin = .done (.ret v) ∧ Q v s') E (stt r h tk) := by
  simp only [List.nodup_cons, List.mem_cons, List.not_mem_nil, or_false, not_or, List.nodup_nil, and_true, not_false_eq_true] at nd
  obtain ⟨⟨n1, n2, n3, n4, n5⟩, ⟨n6, n7, n8, n9⟩, ⟨n10, n11, n12⟩, ⟨n13, n14⟩, n15⟩ := nd
  show wpAny _ _ (field (.ref z) 2 >>= _) _ _ _
  refine wpAny_bind (wpAny_field hz rfl (x := .bool false) rfl ?_)
  show wpAny _ _ (field (.ref z) 3 >>= _) _ _ _
  refine wpAny_bind (wpAny_field hz rfl (x := .ref TI) rfl ?_)
  refine wpAny_bind (wpAny_seqItems hTI rfl ?_)
  show wpAny _ _ (Builtin.SmallTypes.ownedTupleIsFree (.ref z) >>= _) _ _ _
  refine wpAny_bind ?_
  unfold Builtin.SmallTypes.ownedTupleIsFree
  refine wpAny_bind (wpAny_field hz rfl (x := .none) rfl (wpAny_pure ?_))
  simp only [if_true]
  refine wpAny_bind (wpAny_rule ?_)
  refine wpAny_bind (wpAny_field hz rfl (x := .ref TO) rfl ?_)
  refine wpAny_bind (wpAny_setField_rec hz (by simp) fun h₁ hz₁ hs₁ => ?_)
  replace hz₁ : h₁.get? z = some (zipO .ellipsis TI TO) := hz₁
  refine wpAny_bind ?_
  simp only [List.zipIdx_cons, List.zipIdx_nil, List.forIn_cons, List.forIn_nil]
  have g1 := fun (x : Addr) (o : Obj) (n : x ≠ z) (e : h.get? x = some o) => (hs₁.2 x n).trans e
  refine wpAny_bind (wpAny_bind (wpAny_onRaise ?_))
  show wpAny _ _ (Builtin.SmallTypes.nextOf (.ref i1) >>= _) _ _ _
  refine wpAny_bind (nth_ascii (r := r) (h := h₁) (tk := tk) (g1 _ _ (Ne.symm n3) e1) s1 hx1 fun h₂ o1' e1' s1' hs₂ => wpAny_pure ?_)
  have hTO₂ : h₂.get? TO = some (trO a b c) := (hs₂.2 TO n10).trans (g1 _ _ (Ne.symm n2) hTO)
  refine wpAny_bind (wpAny_seqItems hTO₂ rfl ?_)
  refine wpAny_bind (upd_trip hTO₂ fun h₃ hTO₃ hs₃ => ?_)
  replace hTO₃ : h₃.get? TO = some (trO (.str ⟨#[c1]⟩ tk) b c) := hTO₃
  refine wpAny_bind (wpAny_letGo (wpAny_pure ?_))
  refine wpAny_bind (wpAny_bind (wpAny_onRaise ?_))
  show wpAny _ _ (Builtin.SmallTypes.nextOf (.ref i2) >>= _) _ _ _
  have e2' : h₃.get? i2 = some o2 := (hs₃.2 i2 (Ne.symm n11)).trans ((hs₂.2 i2 (Ne.symm n13)).trans (g1 _ _ (Ne.symm n4) e2))
  refine wpAny_bind (nth_ascii (r := r) (h := h₃) (tk := tk + 1) e2' s2 hx2 fun h₄ o2' e2'' s2' hs₄ => wpAny_pure ?_)
  have hTO₄ : h₄.get? TO = some (trO (.str ⟨#[c1]⟩ tk) b c) := (hs₄.2 TO n11).trans hTO₃
  refine wpAny_bind (wpAny_seqItems hTO₄ rfl ?_)
  refine wpAny_bind (upd_trip hTO₄ fun h₅ hTO₅ hs₅ => ?_)
  replace hTO₅ : h₅.get? TO = some (trO (.str ⟨#[c1]⟩ tk) (.str ⟨#[c2]⟩ (tk + 1)) c) := hTO₅
  refine wpAny_bind (wpAny_letGo (wpAny_pure ?_))
  refine wpAny_bind (wpAny_bind (wpAny_onRaise ?_))
  show wpAny _ _ (Builtin.SmallTypes.nextOf (.ref i3) >>= _) _ _ _
  have e3' : h₅.get? i3 = some o3 := (hs₅.2 i3 (Ne.symm n12)).trans ((hs₄.2 i3 (Ne.symm n15)).trans ((hs₃.2 i3 (Ne.symm n12)).trans ((hs₂.2 i3 (Ne.symm n14)).trans (g1 _ _ (Ne.symm n5) e3))))
  refine wpAny_bind (nth_ascii (r := r) (h := h₅) (tk := tk + 1 + 1) e3' s3 hx3 fun h₆ o3' e3'' s3' hs₆ => wpAny_pure ?_)
  have hTO₆ : h₆.get? TO = some (trO (.str ⟨#[c1]⟩ tk) (.str ⟨#[c2]⟩ (tk + 1)) c) := (hs₆.2 TO n12).trans hTO₅
  refine wpAny_bind (wpAny_seqItems hTO₆ rfl ?_)
  refine wpAny_bind (upd_trip hTO₆ fun h₇ hTO₇ hs₇ => ?_)
  replace hTO₇ : h₇.get? TO = some (trO (.str ⟨#[c1]⟩ tk) (.str ⟨#[c2]⟩ (tk + 1)) (.str ⟨#[c3]⟩ (tk + 1 + 1))) := hTO₇
  refine wpAny_bind (wpAny_letGo (wpAny_pure (wpAny_pure ?_)))
  refine wpAny_bind (wpAny_seqItems hTO₇ rfl ?_)
  refine wpAny_bind (wpAny_newTuple ?_)
  have hsz : h₇.objs.size = h.objs.size := by rw [hs₇.1, hs₆.1, hs₅.1, hs₄.1, hs₃.1, hs₂.1, hs₁.1]
  have hz₇ : h₇.get? z = some (zipO .ellipsis TI TO) := (hs₇.2 z n2).trans ((hs₆.2 z n5).trans ((hs₅.2 z n2).trans ((hs₄.2 z n4).trans ((hs₃.2 z n2).trans ((hs₂.2 z n3).trans hz₁)))))
  have up7 : ∀ b' o, b' ∉ [z, TO, i1, i2, i3] → h.get? b' = some o → h₇.get? b' = some o := fun b' o hb e => by
    simp only [List.mem_cons, List.not_mem_nil, or_false, not_or] at hb
    obtain ⟨b1, b2, b3, b4, b5⟩ := hb
    exact (hs₇.2 _ b2).trans ((hs₆.2 _ b5).trans ((hs₅.2 _ b2).trans ((hs₄.2 _ b4).trans ((hs₃.2 _ b2).trans ((hs₂.2 _ b3).trans (g1 _ _ b1 e))))))
  have hTI₇ : h₇.get? TI = some (trO (.ref i1) (.ref i2) (.ref i3)) := up7 _ _ (by simp only [List.mem_cons, List.not_mem_nil, or_false, not_or]; exact ⟨Ne.symm n1, n6, n7, n8, n9⟩) hTI
  have f1 : h₇.get? i1 = some o1' := (hs₇.2 _ (Ne.symm n10)).trans ((hs₆.2 _ n14).trans ((hs₅.2 _ (Ne.symm n10)).trans ((hs₄.2 _ n13).trans ((hs₃.2 _ (Ne.symm n10)).trans e1'))))
  have f2 : h₇.get? i2 = some o2' := (hs₇.2 _ (Ne.symm n11)).trans ((hs₆.2 _ n15).trans ((hs₅.2 _ (Ne.symm n11)).trans e2''))
  have f3 : h₇.get? i3 = some o3' := (hs₇.2 _ (Ne.symm n12)).trans e3''
  show wpAny _ _ (Builtin.SmallTypes.ownedTupleHandOut (.ref z) (.ref h₇.objs.size) >>= _) _ _ _
  refine wpAny_bind ?_
  unfold Builtin.SmallTypes.ownedTupleHandOut
  have hz₈ : (h₇.push (trO (.str ⟨#[c1]⟩ tk) (.str ⟨#[c2]⟩ (tk + 1)) (.str ⟨#[c3]⟩ (tk + 1 + 1)))).get? z = some (zipO .ellipsis TI TO) := Heap.get?_push_of_some _ hz₇
  refine wpAny_bind (wpAny_setField_rec hz₈ (by simp) fun h₉ hz₉ hs₉ => ?_)
  replace hz₉ : h₉.get? z = some (zipO (rawInt h₇.objs.size) TI TO) := hz₉
  refine wpAny_setField_rec hz₉ (by simp) fun h₁₀ hz₁₀ hs₁₀ => ?_
  replace hz₁₀ : h₁₀.get? z = some (zipO (rawInt h₇.objs.size) TI TO) := hz₁₀
  have up : ∀ b' o, b' ≠ z → h₇.get? b' = some o → h₁₀.get? b' = some o := fun b' o hb e => (hs₁₀.2 _ hb).trans ((hs₉.2 _ hb).trans (Heap.get?_push_of_some _ e))
  have nT : h₇.objs.size ≠ z := Nat.ne_of_gt (Heap.lt_size hz₇)
  have eT : h₁₀.get? h₇.objs.size = some (trO (.str ⟨#[c1]⟩ tk) (.str ⟨#[c2]⟩ (tk + 1)) (.str ⟨#[c3]⟩ (tk + 1 + 1))) := (hs₁₀.2 _ nT).trans ((hs₉.2 _ nT).trans (Heap.get?_push_size _ rfl))
  have T0 : h.get? h₇.objs.size = none := by rw [hsz]; exact fresh_none fun _ _ e => e
  refine wpAny_pure ⟨_, rfl, hQ h₁₀ h₇.objs.size _ _ _ _ o1' o2' o3' _ _ _ T0 eT hz₁₀ (up _ _ (Ne.symm n1) hTI₇) (up _ _ (Ne.symm n2) hTO₇) (up _ _ (Ne.symm n3) f1) (up _ _ (Ne.symm n4) f2) (up _ _ (Ne.symm n5) f3) s1' s2' s3' (fun b' o hb e => ?_)⟩
  exact up _ _ (by simp only [List.mem_cons, not_or] at hb; exact hb.1) (up7 _ _ hb e)
theorem zip_end {w : World} {r : Rst} {A : Around} {h : Heap} {E : Value → Shared → Prop} {tk : Nat} {z TI TO i1 i2 i3 : Addr} {x1 : Str} {t1 : Tok} {i : Nat} {o1 : Obj} {a b c : Value} {Q : Fin → Shared → Prop} (hh : A.handled = none) (nd : [z, TI, TO, i1, i2, i3].Nodup)
    (hz : h.get? z = some (zipO .none TI TO)) (hTI : h.get? TI = some (trO (.ref i1) (.ref i2) (.ref i3))) (e1 : h.get? i1 = some o1)
    (s1 : SiterAt "str_ascii_iterator" x1 t1 i o1) (hx1 : x1.cps[i]? = none)
    (hE : ∀ h' e, Ext [z, i1] h h' → (∃ o, h'.get? e = some o ∧ o.cls = .type "StopIteration") → E (.ref e) (stt r h' tk)) :
    wpAny (Md w) A (Builtin.«zip.__next__» ⟨[.ref z], []⟩) Q E (stt r h tk) := by
  simp only [List.nodup_cons, List.mem_cons, List.not_mem_nil, or_false, not_or, List.nodup_nil, and_true, not_false_eq_true] at nd
  obtain ⟨⟨n1, n2, n3, n4, n5⟩, _⟩ := nd
  show wpAny _ _ (field (.ref z) 2 >>= _) _ _ _
  refine wpAny_bind (wpAny_field hz rfl (x := .bool false) rfl ?_)
  show wpAny _ _ (field (.ref z) 3 >>= _) _ _ _
  refine wpAny_bind (wpAny_field hz rfl (x := .ref TI) rfl ?_)
  refine wpAny_bind (wpAny_seqItems hTI rfl ?_)
  show wpAny _ _ (Builtin.SmallTypes.ownedTupleIsFree (.ref z) >>= _) _ _ _
  refine wpAny_bind ?_
  unfold Builtin.SmallTypes.ownedTupleIsFree
  refine wpAny_bind (wpAny_field hz rfl (x := .none) rfl (wpAny_pure ?_))
  simp only [if_true]
  refine wpAny_bind (wpAny_rule ?_)
  refine wpAny_bind (wpAny_field hz rfl (x := .ref TO) rfl ?_)
  refine wpAny_bind (wpAny_setField_rec hz (by simp) fun h₁ hz₁ hs₁ => ?_)
  replace hz₁ : h₁.get? z = some (zipO .ellipsis TI TO) := hz₁
  refine wpAny_bind ?_
  simp only [List.zipIdx_cons, List.zipIdx_nil, List.forIn_cons, List.forIn_nil]
  refine wpAny_bind (wpAny_bind (wpAny_onRaise ?_))
  show wpAny _ _ (Builtin.SmallTypes.nextOf (.ref i1) >>= _) _ _ _
  refine wpAny_bind (wpAny_nextOf_ascii_end (s := stt r h₁ tk) (x := x1) (t := t1) (i := i) hh ⟨o1, (hs₁.2 i1 (Ne.symm n3)).trans e1, s1.1, s1.2⟩ hx1 fun h₂ e hs₂ he => ?_)
  obtain ⟨oe, hoe, hce⟩ := he
  have hz₂ : h₂.get? z = some (zipO .ellipsis TI TO) := hs₂ _ _ n3 hz₁
  have hez : e ≠ z := fun x => by subst x; rw [hz₂] at hoe; cases hoe; simp [zipO] at hce
  refine wpAny_setField_rec hz₂ (by simp) fun h₃ _ hs₃ => hE h₃ e (fun b' o hb e' => ?_) ⟨oe, (hs₃.2 _ hez).trans hoe, hce⟩
  simp only [List.mem_cons, List.not_mem_nil, or_false, not_or] at hb
  exact (hs₃.2 _ hb.1).trans (hs₂ _ _ hb.2 ((hs₁.2 _ hb.1).trans e'))
end Mine
end
noncomputable section
open PySem PySem.W PySem.Spec PySem.Calls PyProof.Rows
set_option maxRecDepth 100000
set_option autoImplicit false
namespace Mine
open Pl
theorem SrcG.zip3 (w : World) (x1 x2 x3 : Str) (t1 t2 t3 : Tok) (n : Nat) (l1 : x1.cps.size = n) (l2 : x2.cps.size = n) (l3 : x3.cps.size = n) :
    SrcG w n (fun i v h => ∃ T u1 u2 u3 c1 c2 c3, v = .ref T ∧ x1.cps[i]? = some c1 ∧ x2.cps[i]? = some c2 ∧ x3.cps[i]? = some c3 ∧ h.IsTuple T #[.str ⟨#[c1]⟩ u1, .str ⟨#[c2]⟩ u2, .str ⟨#[c3]⟩ u3]) (ItZip x1 x2 x3 t1 t2 t3) where
  self := fun r A h I G i Q hh st ⟨TI, TO, i1, i2, i3, o1, o2, o3, a, b, c, nd, e, s1, s2, s3⟩ q => ⟨fun E tk => by
    subst e
    exact wpAny_pyIter_zip (s := stt r h tk) (st (I, zipO .none TI TO) (.head _)) ⟨h, tk, rfl, q⟩⟩
  item := fun r A h I G i elts k pos Q hh st ⟨TI, TO, i1, i2, i3, o1, o2, o3, a, b, c, nd, e, s1, s2, s3⟩ lt q => ⟨fun E tk => by
    subst e
    have hz := st (I, zipO .none TI TO) (.head _)
    have hT : (stt r h tk).TypeIs (.ref I) "zip" := ⟨_, hz, rfl⟩
    unfold pyNext
    refine wpAny_bind (wpAny_attempt (wpAny_callSpecial?_slot (name := Str.ofString "__next__") hT F.slot_zip_next
      (wpAny_call_entry F.slot_zip_next hT F.entry_zip_next
        (zip_item (r := r) (h := h) nd hz (st (TI, _) (.tail _ (.head _))) (st (TO, _) (.tail _ (.tail _ (.head _)))) (st (i1, o1) (by simp)) (st (i2, o2) (by simp)) (st (i3, o3) (by simp)) s1 s2 s3
          (c1 := x1.cps[i]) (c2 := x2.cps[i]) (c3 := x3.cps[i]) (by simp [l1, lt]) (by simp [l2, lt]) (by simp [l3, lt])
          fun h' T tk' u1 u2 u3 o1' o2' o3' a' b' c' nT eT ez eTI eTO f1 f2 f3 s1' s2' s3' x => wpAny_pure ⟨h', tk', rfl, .ref T, rfl, ⟨fun E' tk'' => ?_⟩⟩) (F.args_zip_next_1 _))))
    refine wpAny_letOwnedTupleGo_zip (s := stt r h' tk'') ez fun h'' hz'' hs'' => ⟨h'', tk'', rfl, ?_⟩
    have nd' := nd
    simp only [List.nodup_cons, List.mem_cons, List.not_mem_nil, or_false, not_or, List.nodup_nil, and_true, not_false_eq_true] at nd'
    obtain ⟨⟨n1, n2, n3, n4, n5⟩, _⟩ := nd'
    have up : ∀ b o, b ≠ I → h'.get? b = some o → h''.get? b = some o := fun b o hb e => (hs''.2 b hb).trans e
    have nTI : T ≠ I := by rintro rfl; rw [hz] at nT; cases nT
    refine q (.ref T) h'' [(I, zipO .none TI TO), (TI, trO (.ref i1) (.ref i2) (.ref i3)), (TO, trO a' b' c'), (i1, o1'), (i2, o2'), (i3, o3')] ⟨T, u1, u2, u3, _, _, _, rfl, by simp [l1, lt], by simp [l2, lt], by simp [l3, lt], ⟨_, up _ _ nTI eT, rfl, 0, rfl⟩⟩ (fun b o hb e => ?_) rfl (fun p hp => ?_) ⟨TI, TO, i1, i2, i3, o1', o2', o3', a', b', c', nd, rfl, s1', s2', s3'⟩
    · simp only [List.map_cons, List.map_nil, List.mem_cons, List.not_mem_nil, or_false, not_or] at hb
      exact up _ _ hb.1 (x _ _ (by simp only [List.mem_cons, List.not_mem_nil, or_false, not_or]; exact ⟨hb.1, hb.2.2.1, hb.2.2.2.1, hb.2.2.2.2.1, hb.2.2.2.2.2⟩) e)
    · simp only [List.mem_cons, List.not_mem_nil, or_false] at hp
      rcases hp with rfl | rfl | rfl | rfl | rfl | rfl
      · exact hz''
      · exact up _ _ (Ne.symm n1) eTI
      · exact up _ _ (Ne.symm n2) eTO
      · exact up _ _ (Ne.symm n3) f1
      · exact up _ _ (Ne.symm n4) f2
      · exact up _ _ (Ne.symm n5) f3⟩
  done := fun r A h I G Q hh st ⟨TI, TO, i1, i2, i3, o1, o2, o3, a, b, c, nd, e, s1, s2, s3⟩ q => ⟨fun E tk => by
    subst e
    have hz := st (I, zipO .none TI TO) (.head _)
    have hT : (stt r h tk).TypeIs (.ref I) "zip" := ⟨_, hz, rfl⟩
    unfold pyNext
    refine wpAny_bind (wpAny_attempt (wpAny_callSpecial?_slot (name := Str.ofString "__next__") hT F.slot_zip_next
      (wpAny_call_entry F.slot_zip_next hT F.entry_zip_next (zip_end (r := r) (h := h) (A := A.in1) (a := a) (b := b) (c := c) hh nd hz (st (TI, _) (.tail _ (.head _))) (st (i1, o1) (by simp)) s1 (by simp [l1]) fun h' e x he => ?_) (F.args_zip_next_1 _))))
    obtain ⟨o, ho, hc⟩ := he
    refine wpAny_bind (wpAny_isInstance (T := "StopIteration") (b := true) ⟨o, ho, hc⟩ isSubtype_stop ?_)
    exact wpAny_pure ⟨h', tk, rfl, q h' fun b o hb e => x b o (by simp at hb ⊢; exact ⟨hb.1, hb.2.2.2.1⟩) e⟩⟩
theorem nodup6 (n : Nat) : [n + 5, n + 3, n + 4, n, n + 1, n + 2].Nodup := by
  simp only [List.nodup_cons, List.mem_cons, List.not_mem_nil, or_false, not_or, List.nodup_nil, and_true, not_false_eq_true]
  omega
section
variable {w : World} {r : Rst} {A : Around} {h : Heap} {env : Env} {Q : Value → Heap → Prop}
theorem c_zip3 {x1 x2 x3 : Str} {t1 t2 t3 : Tok} (a1 : x1.cps.all (· < 128) = true) (a2 : x2.cps.all (· < 128) = true) (a3 : x3.cps.all (· < 128) = true)
    (q : ∀ I G h', Kp h h' → (∀ p ∈ G, h.get? p.1 = none) → standG G h' → ItZip x1 x2 x3 t1 t2 t3 0 I G → Q (.ref I) h') : Wp w r A (call (.type "zip") [.str x1 t1, .str x2 t2, .str x3 t3]) Q h := by
  refine ⟨fun E tk => callType_new (s := stt r h tk) F.called_zip (by decide) (F3.typeCall_zip_3 _ _ _) (F3.newCall_zip_3 _ _ _) (fun obj => F3.args_object_init_4 obj _ _ _) F.entry_zip_new (meets_zip3 x1 x2 x3 t1 t2 t3 a1 a2 a3) ?_⟩
  have s1 : (z1 h x1 t1).objs.size = h.objs.size + 1 := Heap.size_push ..
  have s2 : (z2 h x1 x2 t1 t2).objs.size = h.objs.size + 2 := by rw [Heap.size_push, s1]
  have s3 : (z3 h x1 x2 x3 t1 t2 t3).objs.size = h.objs.size + 3 := by rw [Heap.size_push, s2]
  have s4 : (z4 h x1 x2 x3 t1 t2 t3).objs.size = h.objs.size + 4 := by rw [Heap.size_push, s3]
  have s5 : (z5 h x1 x2 x3 t1 t2 t3).objs.size = h.objs.size + 5 := by rw [Heap.size_push, s4]
  have g1 : (z1 h x1 t1).get? h.objs.size = some (sitO x1 t1) := Heap.get?_push_size _ rfl
  have g2 : (z2 h x1 x2 t1 t2).get? (z1 h x1 t1).objs.size = some (sitO x2 t2) := Heap.get?_push_size _ rfl
  have g3 : (z3 h x1 x2 x3 t1 t2 t3).get? (z2 h x1 x2 t1 t2).objs.size = some (sitO x3 t3) := Heap.get?_push_size _ rfl
  have g4 : (z4 h x1 x2 x3 t1 t2 t3).get? (z3 h x1 x2 x3 t1 t2 t3).objs.size = some (tupO [.ref h.objs.size, .ref (z1 h x1 t1).objs.size, .ref (z2 h x1 x2 t1 t2).objs.size]) := Heap.get?_push_size _ rfl
  have g5 : (z5 h x1 x2 x3 t1 t2 t3).get? (z4 h x1 x2 x3 t1 t2 t3).objs.size = some (tupO [.none, .none, .none]) := Heap.get?_push_size _ rfl
  have g6 : (z6 h x1 x2 x3 t1 t2 t3).get? (z5 h x1 x2 x3 t1 t2 t3).objs.size = some (zipO .none (z3 h x1 x2 x3 t1 t2 t3).objs.size (z4 h x1 x2 x3 t1 t2 t3).objs.size) := Heap.get?_push_size _ rfl
  have k1 : Kp h (z1 h x1 t1) := kpush _ _
  have k2 : Kp (z1 h x1 t1) (z2 h x1 x2 t1 t2) := kpush _ _
  have k3 : Kp (z2 h x1 x2 t1 t2) (z3 h x1 x2 x3 t1 t2 t3) := kpush _ _
  have k4 : Kp (z3 h x1 x2 x3 t1 t2 t3) (z4 h x1 x2 x3 t1 t2 t3) := kpush _ _
  have k5 : Kp (z4 h x1 x2 x3 t1 t2 t3) (z5 h x1 x2 x3 t1 t2 t3) := kpush _ _
  have k6 : Kp (z5 h x1 x2 x3 t1 t2 t3) (z6 h x1 x2 x3 t1 t2 t3) := kpush _ _
  refine ⟨⟨_, g6, rfl⟩, _, tk, rfl, ?_⟩
  have big : ∀ j, h.get? (h.objs.size + j) = none := fun j => by
    cases e : h.get? (h.objs.size + j) with
    | none => rfl
    | some o => exact absurd (Heap.lt_size e) (Nat.not_lt.mpr (Nat.le_add_right _ _))
  have f1 := k6 _ _ (k5 _ _ (k4 _ _ (k3 _ _ (k2 _ _ g1))))
  have f2 := k6 _ _ (k5 _ _ (k4 _ _ (k3 _ _ g2)))
  have f3 := k6 _ _ (k5 _ _ (k4 _ _ g3))
  have f4 := k6 _ _ (k5 _ _ g4)
  have f5 := k6 _ _ g5
  have f6 := g6
  generalize z6 h x1 x2 x3 t1 t2 t3 = H at f1 f2 f3 f4 f5 f6 k6 ⊢
  rw [s1] at f2
  rw [s2] at f3
  rw [s1, s2, s3] at f4
  rw [s4] at f5
  rw [s3, s4, s5] at f6
  rw [s5]
  refine q (h.objs.size + 5) [(h.objs.size + 5, zipO .none (h.objs.size + 3) (h.objs.size + 4)), (h.objs.size + 3, trO (.ref h.objs.size) (.ref (h.objs.size + 1)) (.ref (h.objs.size + 2))), (h.objs.size + 4, trO .none .none .none), (h.objs.size, sitO x1 t1), (h.objs.size + 1, sitO x2 t2), (h.objs.size + 2, sitO x3 t3)] H
    (fun b o e => k6 _ _ (k5 _ _ (k4 _ _ (k3 _ _ (k2 _ _ (k1 _ _ e)))))) (fun p hp => ?_) (fun p hp => ?_) ⟨h.objs.size + 3, h.objs.size + 4, h.objs.size, h.objs.size + 1, h.objs.size + 2, _, _, _, _, _, _, ?_, rfl, ⟨rfl, rfl⟩, ⟨rfl, rfl⟩, ⟨rfl, rfl⟩⟩
  · simp only [List.mem_cons, List.not_mem_nil, or_false] at hp
    rcases hp with rfl | rfl | rfl | rfl | rfl | rfl
    · exact big 5
    · exact big 3
    · exact big 4
    · exact big 0
    · exact big 1
    · exact big 2
  · simp only [List.mem_cons, List.not_mem_nil, or_false] at hp
    rcases hp with rfl | rfl | rfl | rfl | rfl | rfl
    · exact f6
    · exact f4
    · exact f5
    · exact f1
    · exact f2
    · exact f3
  · exact nodup6 _
end
structure CompOkG (w : World) (r : Rst) (A : Around) (elt : Expr) (telts : List Expr) (ek : Nat) (epos : Pos) (ifs : List Expr) (scope : Scope) (cl : List (Str × Addr)) (env : Env) (n : Nat) (Pv : Nat → Value → Heap → Prop) (L : Addr) (m : Str → Option Value)
    (Q : Value → Heap → Prop) (J : Nat → List Value → Heap → Prop) (g : Heap) : Prop where
  start : J 0 [] g
  keep : ∀ i ys g g', J i ys g → Kp g g' → J i ys g'
  turn : ∀ i v C G D nD oL ys g h mc, i < n → ys.length ≤ i → Pv i v h → At g C (G ++ [(D, listO ys nD), (L, oL)]) h mc → J i ys g →
    Wp w r A (assign (.Tuple telts ek epos) (compEnvC scope cl C env) v) (fun _ h₂ => Wp w r A (testsOf ifs (compEnvC scope cl C env)) (fun ok h₃ =>
      if ok = true then Wp w r A (eval elt (compEnvC scope cl C env)) (fun y h₄ => ∃ g' mc', At g' C (G ++ [(D, listO ys nD), (L, oL)]) h₄ mc' ∧ J (i + 1) (ys ++ [y]) g') h₃
      else ∃ g' mc', At g' C (G ++ [(D, listO ys nD), (L, oL)]) h₃ mc' ∧ J (i + 1) ys g') h₂) h
  fin : ∀ D nD ys g h, At g L [] h m → J n ys g → g.get? D = some (listO ys nD) → Q (.ref D) h
theorem e_compG {w : World} {r : Rst} {A : Around} {h : Heap} {env : Env} {elt iter : Expr} {telts : List Expr} {ek : Nat} {epos : Pos} {ifs : List Expr} {scope : Scope} {cl : List (Str × Addr)} {pos : Pos} {n : Nat} {Pv : Nat → Value → Heap → Prop} {It : Nat → Addr → List (Addr × Obj) → Prop} {L : Addr} {m : Str → Option Value} {Q : Value → Heap → Prop}
    (S : SrcG w n Pv It) (hz : n ≤ 1000) (hh : A.handled = none) (J : Nat → List Value → Heap → Prop)
    (p : Wp w r A (eval iter env) (fun xv h₁ => ∃ I G g, xv = .ref I ∧ It 0 I G ∧ At g L G h₁ m ∧ CompOkG w r A elt telts ek epos ifs scope cl env n Pv L m Q J g) h)
    (hclos : closureFor scope env = Pure.pure cl) (hcell : ∀ y ∈ scope.names, y.2 ≠ .cell) (hkind : scope.kind = .function) (hnames : ∀ y ∈ scope.names, y.2 = .local → scope.names.lookup y.1 = some .local)
    (hs : ∀ x, foldedSetIterable iter env x = Pure.pure x := by intro _; rfl) : Wp w r A (eval (.ListComp elt [⟨.Tuple telts ek epos, iter, ifs, 0⟩] scope pos) env) Q h := by
  refine ⟨fun E tk => ?_⟩
  rw [eval_ListComp]
  refine wpAny_comprehension_free (use := none) rfl hs hclos hkind hnames (p.into fun xv h₁ tk₁ z => ?_)
  obtain ⟨I, G₀, g, rfl, it, T, ok⟩ := z
  refine (S.self r A h₁ I G₀ 0 (fun v h' => v = .ref I ∧ h' = h₁) hh (fun p hp => (T.pin p hp).1) it ⟨rfl, rfl⟩).into fun v h₂ tk₂ z => ?_
  obtain ⟨rfl, rfl⟩ := z
  refine wpAny_newObj_type (s := stt r h₂ tk₂) ?_
  refine wpAny_newFunctionEnv (s := stt r (h₂.push { cls := .type "list", data := .seq ([] : List Value).toArray }) tk₂) hcell (by intro y hy; simp at hy) (fun h₃ hns hsb => ?_) hkind
  generalize hD : (stt r h₂ tk₂).heap.objs.size = D
  have eD₀ : (h₂.push { cls := .type "list", data := .seq ([] : List Value).toArray }).get? D = some (listO []) := by rw [← hD]; exact Heap.get?_push_size _ rfl
  have nD : h₂.get? D = none := by rw [← hD]; exact fresh_none fun _ _ e => e
  have kD : Kp h₂ (h₂.push { cls := .type "list", data := .seq ([] : List Value).toArray }) := kpush _ _
  generalize (h₂.push { cls := .type "list", data := .seq ([] : List Value).toArray }) = hD' at *
  generalize hC : (stt r hD' tk₂).heap.objs.size = C at *
  have nC : hD'.get? C = none := by rw [← hC]; exact fresh_none fun _ _ e => e
  have kC : Kp hD' h₃ := fun b o e => hsb.extBut b o (by rintro rfl; rw [nC] at e; cases e) (Heap.get?_push_of_some _ e)
  have T3 := T.ext fun _ _ e => kC _ _ (kD _ _ e)
  obtain ⟨oL, a1, a2, hL, a3⟩ := T3.ns
  have nCg : g.get? C = none := none_of_ext (Ext.of (fun _ _ e => kD _ _ (T.kp _ _ e)) []) (by simp) nC
  have hDC : D ≠ C := by rintro rfl; rw [eD₀] at nC; cases nC
  have hLC : L ≠ C := by
    rintro rfl
    obtain ⟨o', _, _, e, _⟩ := T.ns
    rw [kD _ _ e] at nC; cases nC
  have hLD : L ≠ D := by
    rintro rfl
    obtain ⟨o', _, _, e, _⟩ := T.ns
    rw [e] at nD; cases nD
  have GD : ∀ p ∈ G₀, p.1 ≠ D := fun p hp q => by have := (T.pin p hp).1; rw [q, nD] at this; cases this
  have GC : ∀ p ∈ G₀, p.1 ≠ C := fun p hp q => by have := kD _ _ (T.pin p hp).1; rw [q, nC] at this; cases this
  have gD : g.get? D = none := none_of_ext (Ext.of T.kp []) (by simp) nD
  have kGD : D ∉ keysG G₀ := fun q => by obtain ⟨p, hp, e⟩ := List.mem_map.mp q; exact GD p hp e
  have kGL : L ∉ keysG G₀ := fun q => by obtain ⟨p, hp, e⟩ := List.mem_map.mp q; exact (T.pin p hp).2.1 e
  have nPk : ∀ ys k, ∀ p ∈ [((D, listO ys k) : Addr × Obj), (L, oL)], p.1 ∉ keysG G₀ := fun ys k p hp => by
    simp only [List.mem_cons, List.not_mem_nil, or_false] at hp
    rcases hp with rfl | rfl
    · exact kGD
    · exact kGL
  have start : At g C (G₀ ++ [(D, listO []), (L, oL)]) h₃ (fun x => ([] : List (Str × Value)).reverse.lookup x) := by
    refine ⟨hns, T3.kp, nCg, fun p hp => ?_⟩
    rcases List.mem_append.mp hp with hp | hp
    · exact ⟨(T3.pin p hp).1, GC p hp, (T3.pin p hp).2.2⟩
    · simp only [List.mem_cons, List.not_mem_nil, or_false] at hp
      rcases hp with rfl | rfl
      · exact ⟨kC _ _ eD₀, hDC, gD⟩
      · exact ⟨hL, hLC, T.out⟩
  have loop : ∀ tk, codeAny (Md w) A (.compLoop (.ListComp elt [⟨.Tuple telts ek epos, iter, ifs, 0⟩] scope pos) 0 (.ref I) (.ref D) (compEnvC scope cl C env)) (compPost (Md w) A E none (Post r Q) (.ref D) C) (stt r h₃ tk) := by
    intro tk
    refine comp_code (prog := PW) (fun k s => ∃ i h tk g mc G ys nD, s = stt r h tk ∧ i ≤ n ∧ ys.length ≤ i ∧ k = n + 1 - i ∧ It i I G ∧ keysG G = keysG G₀ ∧ At g C (G ++ [(D, listO ys nD), (L, oL)]) h mc ∧ J i ys g) ?_ (n + 1)
      ⟨0, h₃, tk, g, _, G₀, [], 0, rfl, Nat.zero_le _, Nat.le_refl _, rfl, it, rfl, start, ok.start⟩
    rintro k s zz; refine xj4 zz fun i h tk g zz0 => ?_; clear zz; refine xj4 zz0 fun mc G ys kD zz1 => ?_; clear zz0; refine cj8 zz1 fun e1 hi hys e2 it hk T j => ?_; clear zz1; subst e1; subst e2
    have st : standG G h := fun p hp => (T.pin p (List.mem_append_left _ hp)).1
    have nP' : ∀ p ∈ [((D, listO ys kD) : Addr × Obj), (L, oL)], p.1 ∉ keysG G := by rw [hk]; exact nPk ys kD
    rcases Nat.lt_or_ge i n with lt | ge
    · refine (S.item r A h I G i telts ek epos (fun v h' => ∃ G', Pv i v h' ∧ Ext (keysG G) h h' ∧ keysG G' = keysG G ∧ standG G' h' ∧ It (i + 1) I G') hh st it lt (fun v h' G' pv x' k' e' it' => ⟨G', pv, x', k', e', it'⟩)).into fun v h₂ tk₂ z => ?_
      obtain ⟨u, rfl, z⟩ := z
      refine z.into fun _ h₃ tk₃ z => ?_
      obtain ⟨G', pv, x', k', e', it'⟩ := z
      refine (ok.turn i u C G' D kD oL ys g _ mc lt hys pv (T.updG nP' x' k' e') j).into fun _ h₄ tk₄ z => z.into fun b h₅ tk₅ z => ?_
      cases b with
      | false =>
        obtain ⟨g', mc', T', j'⟩ := z
        exact ⟨n + 1 - (i + 1), by omega, i + 1, h₅, tk₅, g', mc', G', ys, kD, rfl, lt, by omega, rfl, it', k'.trans hk, T', j'⟩
      | true =>
        refine Wp.into z fun y h₆ tk₆ z => ?_
        obtain ⟨g', mc', T', j'⟩ := z
        have dm : (D, listO ys kD) ∈ G' ++ [((D, listO ys kD) : Addr × Obj), (L, oL)] := List.mem_append_right _ (.head _)
        refine (c_append (r := r) (A := A) (v := y) (Q := fun _ h' => ∃ n', Ext [D] h₆ h' ∧ h'.get? D = some (listO (ys ++ [y]) n')) (T'.pin (D, listO ys kD) dm).1 (by omega) (fun h' n' x e => ⟨n', x, e⟩)).into fun _ h₇ tk₇ z => ?_
        obtain ⟨n', x₇, e₇⟩ := z
        have kG' : D ∉ keysG G' := by rw [k', hk]; exact kGD
        have T7 : At g' C (G' ++ [(D, listO (ys ++ [y]) n'), (L, oL)]) h₇ mc' := by
          have T8 : At g' C ((D, listO ys kD) :: (G' ++ [(L, oL)])) h₆ mc' := T'.pins (by intro p hp; simp only [List.mem_cons, List.mem_append, List.not_mem_nil, or_false] at hp ⊢; rcases hp with h | h | h <;> simp [h])
          have T9 := T8.pinUpd (o' := listO (ys ++ [y]) n') (fun p hp => by
            simp only [List.mem_append, List.mem_cons, List.not_mem_nil, or_false] at hp
            rcases hp with hp | rfl
            · exact fun q => kG' (List.mem_map.mpr ⟨p, hp, q⟩)
            · exact hLD) x₇ e₇
          exact T9.pins (by intro p hp; simp only [List.mem_cons, List.mem_append, List.not_mem_nil, or_false] at hp ⊢; rcases hp with h | h | h <;> simp [h])
        exact ⟨n + 1 - (i + 1), by omega, i + 1, h₇, tk₇, g', mc', G', ys ++ [y], n', rfl, lt, by rw [List.length_append, List.length_singleton]; omega, rfl, it', k'.trans hk, T7, j'⟩
    · have en : i = n := Nat.le_antisymm hi ge
      subst en
      refine (S.done r A h I G (fun v h' => v = none ∧ Ext (keysG G) h h') hh st it (fun h' x' => ⟨rfl, x'⟩)).into fun v h₂ tk₂ z => ?_
      obtain ⟨rfl, x'⟩ := z
      have T2 := T.offG nP' x'
      refine ⟨mc, T2.ns, fun h' hs' => ⟨h', tk₂, rfl, ?_⟩⟩
      have sb := hs'.2
      have TL : At g L [] h' m := by
        refine ⟨⟨oL, a1, a2, (sb _ hLC).trans (T2.pin (L, oL) (.tail _ (.head _))).1, a3⟩, fun b o e => (sb _ (T2.ne e)).trans (T2.kp _ _ e), (T2.pin (L, oL) (.tail _ (.head _))).2.2, fun _ q => nomatch q⟩
      obtain ⟨g', T', kg, all⟩ := TL.all
      exact ok.fin D kD ys g' h' T' (ok.keep _ _ _ _ j kg) (all _ _ hLD.symm (fun _ q => nomatch q) ((sb _ hDC).trans (T2.pin (D, listO ys kD) (.head _)).1))
  exact codeAny_compStart_list (loop _) ((S.self r A h₃ I G₀ 0 (fun v h' => v = .ref I ∧ h' = h₃) hh (fun p hp => (T3.pin p hp).1) it ⟨rfl, rfl⟩).into fun v h' tk' z => by
    obtain ⟨rfl, rfl⟩ := z
    exact loop _)
end Mine
end
noncomputable section
set_option autoImplicit false
namespace Pl
theorem ends_len : ∀ {u l : List Nat} {m : List Bool} {n : Nat}, u.length = n → l.length = n → m.length = n → (endsP u l m).length = 2 * n
  | [], [], [], n, h, _, _ => by simp at h; subst h; rfl
  | a :: u, b :: l, c :: m, n, h1, h2, h3 => by
    cases n with
    | zero => simp at h1
    | succ n =>
      simp at h1 h2 h3
      rw [endsP, List.length_append, ends_len h1 h2 h3]
      split <;> simp <;> omega
  | [], b :: l, m, n, h1, h2, _ => by simp at h1 h2; omega
  | [], [], c :: m, n, h1, _, h3 => by simp at h1 h3; omega
  | a :: u, [], m, n, h1, h2, _ => by simp at h1 h2; omega
  | a :: u, b :: l, [], n, h1, _, h3 => by simp at h1 h3; omega
theorem ends_mem : ∀ {u l : List Nat} {m : List Bool} {x : Nat}, x ∈ endsP u l m → x ∈ u ∨ x ∈ l
  | a :: u, b :: l, c :: m, x, h => by
    rw [endsP, List.mem_append] at h
    rcases h with h | h
    · split at h
      · simp at h; rcases h with rfl | rfl <;> simp
      · simp at h; rcases h with rfl | rfl <;> simp
    · rcases ends_mem h with h | h <;> simp [h]
  | [], _, _, x, h => by simp [endsP] at h
  | _ :: _, [], _, x, h => by simp [endsP] at h
  | _ :: _, _ :: _, [], x, h => by simp [endsP] at h
theorem ends_snoc : ∀ {u l : List Nat} {m : List Bool} {a b : Nat} {c : Bool}, u.length = l.length → l.length = m.length → endsP (u ++ [a]) (l ++ [b]) (m ++ [c]) = endsP u l m ++ (if c then [a, b] else [b, a])
  | [], [], [], a, b, c, _, _ => by simp [endsP]
  | x :: u, y :: l, z :: m, a, b, c, h1, h2 => by
    simp at h1 h2
    rw [List.cons_append, List.cons_append, List.cons_append, endsP, ends_snoc h1 h2, endsP, List.append_assoc]
  | [], _ :: _, _, a, b, c, h1, _ => by simp at h1
  | _ :: _, [], _, a, b, c, h1, _ => by simp at h1
  | [], [], _ :: _, a, b, c, _, h2 => by simp at h2
  | _ :: _, _ :: _, [], a, b, c, _, h2 => by simp at h2
theorem pairs_len (row : List Nat) (marks : List Bool) (n : Nat) : (pairsP row marks n).length = n := by simp [pairsP]
theorem getD8 {row : List Nat} (h : ∀ j ∈ row, j < 8) (i : Nat) : row.getD i 0 < 8 := by
  rw [List.getD_eq_getElem?_getD]
  cases e : row[i]? with
  | none => simp
  | some x => exact h x (List.mem_of_getElem? e)
theorem pairs_lt {row : List Nat} {marks : List Bool} {n : Nat} (h : ∀ j ∈ row, j < 8) : ∀ p ∈ pairsP row marks n, p.1 < 8 ∧ p.2 < 8 := by
  intro p hp
  obtain ⟨k, _, rfl⟩ := List.mem_map.mp hp
  split
  · exact ⟨getD8 h _, getD8 h _⟩
  · exact ⟨getD8 h _, getD8 h _⟩
theorem run_ok : ∀ (f : Nat) {row : List Nat} {marks : List Bool}, row.length = 2 ^ (f + 1) → marks.length = mlen f → (∀ j ∈ row, j < 8) → (runP f row marks).length = 2 ^ (f + 1) ∧ ∀ j ∈ runP f row marks, j < 8
  | 0, row, marks, h1, h2, h3 => by
    unfold runP
    split
    · exact ⟨h1, h3⟩
    · exact ⟨by simpa using h1, fun j hj => h3 j (by simpa using hj)⟩
  | f + 1, row, marks, h1, h2, h3 => by
    have p : 2 ^ (f + 1 + 1) = 2 * 2 ^ (f + 1) := by rw [Nat.pow_succ]; omega
    have hh : row.length / 2 = 2 ^ (f + 1) := by rw [h1, p]; omega
    have sz : marks.length / 2 - row.length / 2 = mlen f := by rw [h2, hh, mlen]; omega
    rw [mlen] at h2
    unfold runP
    dsimp only
    rw [sz, hh]
    have pl := pairs_lt (marks := marks) (n := 2 ^ (f + 1)) h3
    have u := run_ok f (row := (pairsP row marks (2 ^ (f + 1))).map (·.1)) (marks := (marks.drop (2 ^ (f + 1))).take (mlen f)) (by rw [List.length_map, pairs_len]) (by rw [List.length_take, List.length_drop]; omega) (fun j hj => by
      obtain ⟨q, hq, rfl⟩ := List.mem_map.mp hj; exact (pl q hq).1)
    have l := run_ok f (row := (pairsP row marks (2 ^ (f + 1))).map (·.2)) (marks := (marks.drop (2 ^ (f + 1) + mlen f)).take (mlen f)) (by rw [List.length_map, pairs_len]) (by rw [List.length_take, List.length_drop]; omega) (fun j hj => by
      obtain ⟨q, hq, rfl⟩ := List.mem_map.mp hj; exact (pl q hq).2)
    refine ⟨?_, fun j hj => ?_⟩
    · rw [ends_len u.1 l.1 (by rw [List.length_drop]; omega), p]
    · rcases ends_mem hj with h | h
      · exact u.2 j h
      · exact l.2 j h
end Pl
end
noncomputable section
open PySem PySem.W PySem.Spec PySem.Calls PyProof.Rows
set_option maxRecDepth 100000
set_option autoImplicit false
namespace Mine
open Pl
def ms (l : List Bool) : Str := mk (l.map fun b => if b then 61 else 120)
theorem ms_at (l : List Bool) (i : Nat) : (ms l).cps[i]? = (l[i]?).map fun b => if b then 61 else 120 := by simp [ms, mk]
theorem ms_len (l : List Bool) : (ms l).length = l.length := by show (ms l).cps.size = _; simp [ms, mk]
theorem tx_len (l : List Nat) : (tx l).length = l.length := by show (tx l).cps.size = _; simp [tx]
theorem ms_ascii (l : List Bool) : (ms l).cps.all (· < 128) = true := by
  simp only [ms, mk, List.all_toArray, List.all_map, List.all_eq_true, Function.comp, decide_eq_true_eq]
  intro b _
  cases b <;> decide
theorem eq_mark (b : Bool) : ((⟨#[if b then 61 else 120]⟩ : Str).cps.toList == (⟨⟨[61]⟩⟩ : Str).cps.toList) = b := by cases b <;> kernel_rfl
theorem eq_ms1 (b : Bool) : ((ms [b]).cps.toList == (⟨⟨[61]⟩⟩ : Str).cps.toList) = b := by cases b <;> kernel_rfl
theorem g_run (P : Params) : nsIn (K0 P) mainGlobals "_law_run" = some (some (.ref 365)) := by kernel_rfl
theorem g_len (P : Params) : nsIn (K0 P) mainGlobals "len" = some none := by kernel_rfl
theorem boot_len' : bootBuiltins "len" = some (.builtin "len") := by kernel_rfl
theorem g_range (P : Params) : nsIn (K0 P) mainGlobals "range" = some none := by kernel_rfl
theorem boot_range' : bootBuiltins "range" = some (.type "range") := by kernel_rfl
theorem g_zip (P : Params) : nsIn (K0 P) mainGlobals "zip" = some none := by kernel_rfl
theorem boot_zip' : bootBuiltins "zip" = some (.type "zip") := by kernel_rfl
section
variable {w : World} {r : Rst} {A : Around} {h : Heap} {env : Env} {Q : Value → Heap → Prop}
theorem e_neg {x : Expr} {pos : Pos} (p : Wp w r A (eval x env) (fun v h₁ => ∃ (i : Int) (t : Tok), v = .int i t ∧ ∀ t', Q (.int (-i) t') h₁) h) : Wp w r A (eval (.UnaryOp .USub x pos) env) Q h :=
  ⟨fun E tk => wpAny_UnaryOp (p.into fun v h' tk' z => by obtain ⟨i, t, rfl, z⟩ := z; exact PySem.P.neg_int (s := stt r h' tk') ⟨h', tk' + 1, rfl, z _⟩)⟩
theorem rev2 {row : List Nat} (hl : row.length = 2) (t : Tok) : (⟨((slicePicked (tx row) none none (some (-1, t))).filterMap ((tx row).cps[·]?)).toArray⟩ : Str) = tx row.reverse := by
  match row, hl with
  | [a, b], _ =>
    have e : slicePicked (tx [a, b]) none none (some (-1, t)) = [1, 0] := by
      show Builtin.Str.strSliceIndices none none (-1) (tx [a, b]).length = _
      rw [tx_len]
      show Builtin.Str.strSliceIndices none none (-1) 2 = _
      decide +kernel
    rw [e]
    exact Str.ext' rfl
theorem run0 (D : Wd w h) {row : List Nat} {marks : List Bool} (hl : row.length = 2) (hm : marks.length = 1) {t1 t2 : Tok} {k : Nat} (R : Room A (k + 4)) (q : ∀ h' t', Kp h h' → Q (.str (tx (runP 0 row marks)) t') h') : Wp w r A (call (.ref 365) [.str (tx row) t1, .str (ms marks) t2]) Q h := by
  refine callFC D R (o := o365 w.params) (binds := [("row", .str (tx row) t1), ("marks", .str (ms marks) t2)]) (by kernel_rfl) rfl (by kernel_rfl) rfl (fun n x hx => ?_) (fun L h₁ g hL kg T hc R => ?_) rfl rfl rfl
  · simp only [List.mem_cons, List.not_mem_nil, or_false] at hx
    rcases hx with rfl | rfl
    · exact .inr ⟨rfl, rfl⟩
    · exact .inr ⟨rfl, rfl⟩
  have crow : g.IsCell (L + 1) (some (.str (tx row) t1)) := (hc "row" (L + 1) rfl).1
  have cmarks : g.IsCell (L + 1 + 1) (some (.str (ms marks) t2)) := (hc "marks" (L + 1 + 1) rfl).1
  have Dg := D.kp kg
  have l2 : (tx row).length = 2 := by rw [tx_len, hl]
  refine s_cons (s_if (t_cmp (c_fn (nmB Dg T g_len boot_len' (w_bi (a_cons (gCell T crow ?_)))))))
  refine a_nil (c_len (by rw [l2]; decide) fun t => e_int fun t => o_eqi (t_bool ?_))
  rw [l2]
  match marks, hm with
  | [b], _ =>
    refine s_cons (s_ret (e_if (t_cmp (gCell T cmarks (e_str fun t₄ => o_eqs (t_bool ?_))))))
    rw [eq_ms1]
    cases b with
    | true => exact gCell T crow (q _ _ fun _ _ e => T.kp _ _ (kg _ _ e))
    | false =>
      refine e_sub (gCell T crow (e_slice (ep_none (ep_none (ep_some (e_neg (e_int fun t₅ => ⟨1, _, rfl, fun t₆ sl h₂ k₂ e₂ => ?_⟩)))))))
      refine sub_slice (l := none) (u := none) (st := some (-1, t₆)) (y := tx row.reverse) e₂ rfl (rev2 hl _) (fun _ z => by cases z) (by rw [tx_len]; simp; omega) (fun t₇ => ?_)
      exact q _ _ fun _ _ e => k₂ _ _ (T.kp _ _ (kg _ _ e))
end
end Mine
end
noncomputable section
open PySem PySem.W PySem.Spec PySem.Calls PyProof.Rows
set_option maxRecDepth 100000
set_option autoImplicit false
namespace Mine
open Pl
section
variable {w : World} {r : Rst} {A : Around} {h : Heap} {env : Env} {Q : Value → Heap → Prop}
theorem sub_mk {value slice : Expr} {cs : List Nat} {x : Str} {t : Tok} {sl : Addr} {i j : Int} {ti tj : Tok} {ops : List Value} {a b : Nat} (hx : x = mk cs) (hi : i = (a : Int)) (hj : j = (b : Int)) (e : h.get? sl = some { cls := .type "slice", data := .fields #[.int i ti, .int j tj, .none] }) (hab : a ≤ b) (hb : b ≤ cs.length) (hl : cs.length ≤ 20) (q : ∀ t', Q (.str (mk ((cs.drop a).take (b - a))) t') h)
    (hs : subscripted slice false (.str x t) (.ref sl) = operate ops (getItem (.str x t) (.ref sl)) := by with_unfolding_all rfl)
    (ht : ∀ r, letTemporaryGo value (.str x t) r = Pure.pure () := by intro _; with_unfolding_all rfl) : Wp w r A (subscriptTail value slice (.str x t) (.ref sl)) Q h := by
  subst hx hi hj
  obtain ⟨s1, s2, _⟩ := slice_ab hl hab hb ti tj
  exact sub_slice (l := some ((a : Int), ti)) (u := some ((b : Int), tj)) (st := none) e rfl s1 (fun z _ => s2 z) (by show ((cs.drop a).take (b - a)).toArray.size ≤ 2000; simp; omega) q hs ht
theorem sub_mk_from {value slice : Expr} {cs : List Nat} {x : Str} {t : Tok} {sl : Addr} {i : Int} {ti : Tok} {ops : List Value} {a : Nat} (hx : x = mk cs) (hi : i = (a : Int)) (e : h.get? sl = some { cls := .type "slice", data := .fields #[.int i ti, .none, .none] }) (ha : a ≤ cs.length) (hl : cs.length ≤ 20) (q : ∀ t', Q (.str (mk (cs.drop a)) t') h)
    (hs : subscripted slice false (.str x t) (.ref sl) = operate ops (getItem (.str x t) (.ref sl)) := by with_unfolding_all rfl)
    (ht : ∀ r, letTemporaryGo value (.str x t) r = Pure.pure () := by intro _; with_unfolding_all rfl) : Wp w r A (subscriptTail value slice (.str x t) (.ref sl)) Q h := by
  subst hx hi
  obtain ⟨s1, s2, s3⟩ := slice_ab hl ha (Nat.le_refl _) ti ti
  have e1 : (cs.drop a).take (cs.length - a) = cs.drop a := List.take_of_length_le (by simp)
  rw [e1] at s1 s2
  rw [← s3 rfl] at s1 s2
  exact sub_slice (l := some ((a : Int), ti)) (u := none) (st := none) e rfl s1 (fun z _ => s2 z) (by show (cs.drop a).toArray.size ≤ 2000; simp; omega) q hs ht
theorem tx_mk (l : List Nat) : tx l = mk (l.map (97 + ·)) := rfl
theorem getD_at {l : List Nat} {i : Nat} (h : i < l.length) : l[i]? = some (l.getD i 0) := by
  rw [List.getD_eq_getElem?_getD, List.getElem?_eq_getElem h]; rfl
theorem two_at {l : List Nat} {i : Nat} (h : i + 1 < l.length) : (l.drop i).take 2 = [l.getD i 0, l.getD (i + 1) 0] := by
  have h1 := List.drop_eq_getElem_cons (show i < l.length by omega)
  have h2 := List.drop_eq_getElem_cons h
  rw [h1, h2]
  show [l[i], l[i + 1]] = _
  rw [List.getD_eq_getElem?_getD, List.getD_eq_getElem?_getD, List.getElem?_eq_getElem h, List.getElem?_eq_getElem (show i < l.length by omega)]
  rfl
theorem getDb_at {l : List Bool} {i : Nat} (h : i < l.length) : l[i]? = some (l.getD i false) := by
  rw [List.getD_eq_getElem?_getD, List.getElem?_eq_getElem h]; rfl
theorem flat_us {us : List (List Nat × Tok)} {l : List Nat} (h : us.map (·.1) = l.map (fun j => [97 + j])) : us.flatMap (·.1) = l.map (97 + ·) := by
  rw [List.flatMap_def, h]
  clear h
  induction l with
  | nil => rfl
  | cons a l ih => rw [List.map_cons, List.flatten_cons, List.map_cons, ih]; rfl
theorem run_ : ∀ (f : Nat), f ≤ 2 → ∀ {A : Around} {h : Heap} {Q : Value → Heap → Prop}, Wd w h → ∀ {row : List Nat} {marks : List Bool}, (∀ j ∈ row, j < 8) → row.length = 2 ^ (f + 1) → marks.length = mlen f → ∀ {t1 t2 : Tok}, Room A (f + 4) →
    (∀ h' t', Kp h h' → Q (.str (tx (runP f row marks)) t') h') → Wp w r A (call (.ref 365) [.str (tx row) t1, .str (ms marks) t2]) Q h
  | 0, _, A, h, Q, D, row, marks, h8, hl, hm, t1, t2, R, q => run0 D hl hm R q
  | f + 1, hf, A, h, Q, D, row, marks, h8, hl, hm, t1, t2, R, q => by
    obtain ⟨H, S, eH, eS, hH, hH2, hS⟩ : ∃ H S, 2 ^ (f + 1) = H ∧ mlen f = S ∧ H ≤ 4 ∧ 2 ≤ H ∧ S ≤ 6 := by
      refine ⟨_, _, rfl, rfl, ?_⟩
      have : f = 0 ∨ f = 1 := by omega
      rcases this with rfl | rfl <;> decide
    have lr : row.length = 2 * H := by rw [hl, ← eH, Nat.pow_succ]; omega
    have lm : marks.length = 2 * H + 2 * S := by rw [hm, mlen, eH, eS]
    have rp : runP (f + 1) row marks = endsP (runP f ((pairsP row marks H).map (·.1)) ((marks.drop H).take S)) (runP f ((pairsP row marks H).map (·.2)) ((marks.drop (H + S)).take S)) (marks.drop (H + 2 * S)) := by
      have hh : row.length / 2 = H := by omega
      have sz : marks.length / 2 - row.length / 2 = S := by omega
      rw [runP, sz, hh]
    refine callFC D R (o := o365 w.params) (binds := [("row", .str (tx row) t1), ("marks", .str (ms marks) t2)]) (by kernel_rfl) rfl (by kernel_rfl) rfl (fun n x hx => ?_) (fun L h₁ g hL kg T hc R => ?_) rfl rfl rfl
    · simp only [List.mem_cons, List.not_mem_nil, or_false] at hx
      rcases hx with rfl | rfl
      · exact .inr ⟨rfl, rfl⟩
      · exact .inr ⟨rfl, rfl⟩
    have crow : g.IsCell (L + 1) (some (.str (tx row) t1)) := (hc "row" (L + 1) rfl).1
    have cmarks : g.IsCell (L + 1 + 1) (some (.str (ms marks) t2)) := (hc "marks" (L + 1 + 1) rfl).1
    have Dg := D.kp kg
    refine s_cons (s_if (t_cmp (c_fn (nmB Dg T g_len boot_len' (w_bi (a_cons (gCell T crow ?_)))))))
    refine a_nil (c_len (by rw [tx_len]; omega) fun t => e_int fun t => o_eqi (t_bool ?_))
    rw [tx_len, lr, show (((2 * H : Nat) : Int) == 2) = false from beq_eq_false_iff_ne.mpr (by omega)]
    refine s_nil ?_
    refine s_cons (s_asg (e_bin (c_fn (nmB Dg T g_len boot_len' (w_bi (a_cons (gCell T crow ?_)))))))
    refine a_nil (c_len (by rw [tx_len]; omega) fun t => e_int fun t => o_divi (by decide) (by decide) fun th => ?_)
    rw [tx_len, lr, show ((2 * H : Nat) : Int).fdiv 2 = (H : Int) from by rw [Int.fdiv_eq_ediv_of_nonneg _ (by decide)]; omega]
    refine stL T fun h₂ T₂ => ?_
    refine s_cons (s_asg (e_bin (e_bin (c_fn (nmB Dg T₂ g_len boot_len' (w_bi (a_cons (gCell T₂ cmarks ?_))))))))
    refine a_nil (c_len (by rw [ms_len]; omega) fun t => e_int fun t => o_divi (by decide) (by decide) fun t => nmL T₂ rfl (o_subi fun ts => ?_))
    rw [ms_len, lm, show ((2 * H + 2 * S : Nat) : Int).fdiv 2 - (H : Int) = (S : Int) from by rw [Int.fdiv_eq_ediv_of_nonneg _ (by decide)]; omega]
    refine stL T₂ fun h₃ T₃ => ?_
    obtain ⟨m₃, T₃, mh, mz⟩ : ∃ m, At g L [] h₃ m ∧ m "half" = some (.int H th) ∧ m "size" = some (.int S ts) := ⟨_, T₃, rfl, rfl⟩
    clear T₂ T
    refine s_cons (s_asgComp (P := []) (m := m₃) R.handled (c_fn (nmB Dg T₃ g_range boot_range' (w_ty (a_cons (nmL T₃ mh (a_nil (c_range1 fun rg h₄ u v k₄ nr er => ?_))))))) rfl (by decide) rfl (by decide))
    refine xcj3 (T₃.anew0 k₄) fun g₁ T₄ kg₁ ng₁ => ?_
    have er1 : IsRange g₁ rg 0 H 1 u th v := ng₁ _ _ nr er
    refine ⟨H, _, _, _, fun i ys g' => Kp g₁ g' ∧ ∃ zs, ys = sv zs ∧ zs.map (·.1) = ((pairsP row marks H).take i).map (fun p => [97 + p.1, 97 + p.2]), by omega, Src.range w rg 0 H 1 H (range_size H) (range_small H (by omega)), g₁, T₄,
      ⟨⟨fun _ _ e => e, [], rfl, rfl⟩, fun _ _ g' z => ⟨_, _, _, z.1 _ _ er1⟩, fun i ys g₁ g₂ ⟨k, z⟩ k' => ⟨fun _ _ e => k' _ _ (k _ _ e), z⟩, ?_⟩, ?_⟩
    · rintro i v₁ C I o D' nD oL ys g₂ h₅ mc lt hys ⟨tk5, rfl⟩ T₅ ⟨kg2, zs, rfl, hzs⟩
      rw [show (0 + (i : Int) * 1) = ((i : Nat) : Int) by omega]
      have crow2 : g₂.IsCell (L + 1) (some (.str (tx row) t1)) := crow.keeps fun b o e => kg2 _ _ (kg₁ _ _ e)
      have cm2 : g₂.IsCell (L + 1 + 1) (some (.str (ms marks) t2)) := cmarks.keeps fun b o e => kg2 _ _ (kg₁ _ _ e)
      have im : i < marks.length := by omega
      have tk1 : (pairsP row marks H).take (i + 1) = (pairsP row marks H).take i ++ [if marks.getD i false then (row.getD (2 * i) 0, row.getD (2 * i + 1) 0) else (row.getD (2 * i + 1) 0, row.getD (2 * i) 0)] := by
        rw [List.take_add_one]
        congr 1
        simp [pairsP, lt]
      refine a_name (gS T₅ fun h₆ T₆ => ts_nil ?_)
      refine e_if (t_cmp (e_sub (gCell T₆ cm2 (gL T₆ rfl (sub_str (k := i) (c := if marks.getD i false then 61 else 120) (by omega) (by rw [ms_at, getDb_at im]; rfl) (fun t => e_str fun t => o_eqs (t_bool ?_)))))))
      rw [eq_mark]
      cases hb : marks.getD i false with
      | true =>
        rw [hb] at tk1
        refine e_sub (gCell T₆ crow2 (e_slice (ep_some (e_bin (e_int fun ta => gL T₆ rfl (o_muli (by decide +kernel) fun tb => ?_))))))
        refine ep_some (e_bin (e_bin (e_int fun tc => gL T₆ rfl (o_muli (by decide +kernel) fun td => e_int fun te => o_addi fun tf => ep_none fun sl h₇ k₇ e₇ => ?_))))
        refine sub_mk (cs := row.map (97 + ·)) (a := 2 * i) (b := 2 * i + 2) rfl (by omega) (by omega) e₇ (by omega) (by rw [List.length_map]; omega) (by rw [List.length_map]; omega) (fun tg => ?_)
        refine ⟨g₂, _, T₆.ext k₇, kg2, zs ++ [([97 + row.getD (2 * i) 0, 97 + row.getD (2 * i + 1) 0], tg)], ?_, ?_⟩
        · rw [show 2 * i + 2 - 2 * i = 2 by omega, ← List.map_drop, ← List.map_take, two_at (by omega)]
          simp [sv]
        · rw [tk1, List.map_append, List.map_append, hzs]; rfl
      | false =>
        rw [hb] at tk1
        refine e_bin (e_sub (gCell T₆ crow2 (e_bin (e_bin (e_int fun ta => gL T₆ rfl (o_muli (by decide +kernel) fun tb => e_int fun tc => o_addi fun td => ?_))))))
        rw [show (2 * (i : Int) + 1) = ((2 * i + 1 : Nat) : Int) by omega]
        refine sub_str (c := 97 + row.getD (2 * i + 1) 0) (by omega) (by rw [tx_at, getD_at (by omega)]; rfl) (fun te => ?_)
        refine e_sub (gCell T₆ crow2 (e_bin (e_int fun tf => gL T₆ rfl (o_muli (by decide +kernel) fun tg => ?_))))
        rw [show (2 * (i : Int)) = ((2 * i : Nat) : Int) by omega]
        refine sub_str (c := 97 + row.getD (2 * i) 0) (by omega) (by rw [tx_at, getD_at (by omega)]; rfl) (fun th' => o_adds (by show 2 ≤ 2000; decide) fun ti => ?_)
        refine ⟨g₂, _, T₆, kg2, zs ++ [([97 + row.getD (2 * i + 1) 0, 97 + row.getD (2 * i) 0], ti)], ?_, ?_⟩
        · simp [sv]; rfl
        · rw [tk1, List.map_append, List.map_append, hzs]; rfl
    · rintro lp nP ys g₂ h₅ T₅ ⟨kg2, zs, rfl, hzs⟩ elp
      have crow2 : g₂.IsCell (L + 1) (some (.str (tx row) t1)) := crow.keeps fun b o e => kg2 _ _ (kg₁ _ _ e)
      have cm2 : g₂.IsCell (L + 1 + 1) (some (.str (ms marks) t2)) := cmarks.keeps fun b o e => kg2 _ _ (kg₁ _ _ e)
      have D2 : Wd w g₂ := Dg.kp fun b o e => kg2 _ _ (kg₁ _ _ e)
      have kh2 : Kp h g₂ := fun b o e => kg2 _ _ (kg₁ _ _ (kg _ _ e))
      rw [show (pairsP row marks H).take H = pairsP row marks H from List.take_of_length_le (by rw [Pl.pairs_len]; exact Nat.le_refl _)] at hzs
      have zl : zs.length = H := by have := congrArg List.length hzs; rw [List.length_map, List.length_map, Pl.pairs_len] at this; exact this
      clear T₄ T₃ er er1 k₄
      have atP : ∀ (i : Nat) (v : Value), (sv zs)[i]? = some v → ∃ pr tz, (pairsP row marks H)[i]? = some pr ∧ v = .str (mk [97 + pr.1, 97 + pr.2]) tz := by
        intro i v hv
        simp only [sv, List.getElem?_map, Option.map_eq_some_iff] at hv
        obtain ⟨z, hz, rfl⟩ := hv
        have e1 := congrArg (fun l => l[i]?) hzs
        simp only [List.getElem?_map, hz, Option.map_some] at e1
        cases e2 : (pairsP row marks H)[i]? with
        | none => rw [e2] at e1; cases e1
        | some pr => rw [e2] at e1; injection e1 with e1; exact ⟨pr, z.2, rfl, by rw [e1]⟩
      refine s_cons (s_asg (c_fn (nmK D2 T₅ g_run (w_fn D2 (fun P => by kernel_rfl) (a_cons (c_me fun pl => e_str fun ta => g_join (w_bi (a_cons ?_))))))))
      refine e_comp (P := []) (Src.list w lp (sv zs)) (by simp [sv]; omega) R.handled (fun i ys g' => Kp g₂ g' ∧ ∃ us, ys = sv us ∧ us.map (·.1) = (((pairsP row marks H).map (·.1)).take i).map (fun j => [97 + j])) (nmL T₅ rfl ⟨rfl, g₂, T₅, ?_⟩) rfl (by decide) rfl (by decide)
      refine ⟨⟨fun _ _ e => e, [], rfl, rfl⟩, fun _ _ g' z => ⟨nP, z.1 _ _ elp⟩, fun i ys g₁ g₂ ⟨k, z⟩ k' => ⟨fun _ _ e => k' _ _ (k _ _ e), z⟩, ?_, ?_⟩
      · rintro i v₁ C I o D'' nD oL ys g₃ h₆ mc lt hys hv T₆ ⟨kg3, us, rfl, hus⟩
        obtain ⟨pr, tz, hpr, rfl⟩ := atP i v₁ hv
        refine a_name (gS T₆ fun h₇ T₇ => ts_nil ?_)
        refine e_sub (gL T₇ rfl (e_int fun tb => sub_str (k := 0) (c := 97 + pr.1) (by omega) rfl (fun tc => ?_)))
        refine ⟨g₃, _, T₇, kg3, us ++ [([97 + pr.1], tc)], by simp [sv]; rfl, ?_⟩
        rw [List.take_add_one, List.getElem?_map, hpr, List.map_append, List.map_append, hus]; rfl
      rintro D9 nD9 ys9 g9 h9 T9 ⟨kg9, us9, rfl, hus9⟩ eD9
      rw [show ((pairsP row marks H).map (·.1)).take (sv zs).length = (pairsP row marks H).map (·.1) from List.take_of_length_le (by simp [sv, Pl.pairs_len]; omega)] at hus9
      refine a_nil (c_join0 (T9.kp _ _ eD9) (by rw [flat_us hus9]; simp [Pl.pairs_len]; omega) fun tj9 => ?_)
      rw [flat_us hus9]
      have cm9 : g9.IsCell (L + 1 + 1) (some (.str (ms marks) t2)) := cm2.keeps kg9
      refine a_cons (e_sub (gCell T9 cm9 (e_slice (ep_some (nmL T9 mh (ep_some (e_bin (nmL T9 mh (nmL T9 mz (o_addi fun td => ep_none fun sl h₇ kk9 e₇ => ?_))))))))))
      refine sub_mk (cs := marks.map fun b => if b then 61 else 120) (a := H) (b := H + S) rfl rfl (by omega) e₇ (by omega) (by rw [List.length_map]; omega) (by rw [List.length_map]; omega) (fun te => a_nil ⟨fun _ _ e => kk9 _ _ (T9.kp _ _ (kg9 _ _ e)), ?_⟩)
      have emk9 : mk (((marks.map fun b => if b then 61 else 120).drop (H)).take (H + S - (H))) = ms ((marks.drop (H)).take S) := by rw [show H + S - (H) = S by omega, ← List.map_drop, ← List.map_take]; rfl
      rw [emk9]
      have Dg9 : Wd w g9 := D2.kp kg9
      have el9 : g9.get? lp = some (listO (sv zs) nP) := kg9 _ _ elp
      refine run_ f (by omega) (D2.kp fun _ _ e => kk9 _ _ (T9.kp _ _ (kg9 _ _ e))) (row := (pairsP row marks H).map (·.1)) (marks := (marks.drop H).take S) (fun j hj => by obtain ⟨q, hq, rfl⟩ := List.mem_map.mp hj; exact (pairs_lt h8 q hq).1) (by rw [List.length_map, Pl.pairs_len, eH]) (by rw [List.length_take, List.length_drop, eS]; omega) R (fun hr9 tr9 kr9 => ?_)
      refine stL ((T9.ext kk9).ext kr9) fun hs9 Tu => ?_
      refine s_cons (s_asg (c_fn (nmK Dg9 Tu g_run (w_fn Dg9 (fun P => by kernel_rfl) (a_cons (c_me fun pl => e_str fun ta => g_join (w_bi (a_cons ?_))))))))
      refine e_comp (P := []) (Src.list w lp (sv zs)) (by simp [sv]; omega) R.handled (fun i ys g' => Kp g9 g' ∧ ∃ us, ys = sv us ∧ us.map (·.1) = (((pairsP row marks H).map (·.2)).take i).map (fun j => [97 + j])) (nmL Tu rfl ⟨rfl, g9, Tu, ?_⟩) rfl (by decide) rfl (by decide)
      refine ⟨⟨fun _ _ e => e, [], rfl, rfl⟩, fun _ _ g' z => ⟨nP, z.1 _ _ el9⟩, fun i ys g₁ g₂ ⟨k, z⟩ k' => ⟨fun _ _ e => k' _ _ (k _ _ e), z⟩, ?_, ?_⟩
      · rintro i v₁ C I o D'' nD oL ys g₃ h₆ mc lt hys hv T₆ ⟨kg3, us, rfl, hus⟩
        obtain ⟨pr, tz, hpr, rfl⟩ := atP i v₁ hv
        refine a_name (gS T₆ fun h₇ T₇ => ts_nil ?_)
        refine e_sub (gL T₇ rfl (e_int fun tb => sub_str (k := 1) (c := 97 + pr.2) (by omega) rfl (fun tc => ?_)))
        refine ⟨g₃, _, T₇, kg3, us ++ [([97 + pr.2], tc)], by simp [sv]; rfl, ?_⟩
        rw [List.take_add_one, List.getElem?_map, hpr, List.map_append, List.map_append, hus]; rfl
      rintro D10 nD10 ys10 g10 h10 T10 ⟨kg10, us10, rfl, hus10⟩ eD10
      rw [show ((pairsP row marks H).map (·.2)).take (sv zs).length = (pairsP row marks H).map (·.2) from List.take_of_length_le (by simp [sv, Pl.pairs_len]; omega)] at hus10
      refine a_nil (c_join0 (T10.kp _ _ eD10) (by rw [flat_us hus10]; simp [Pl.pairs_len]; omega) fun tj10 => ?_)
      rw [flat_us hus10]
      have cm10 : g10.IsCell (L + 1 + 1) (some (.str (ms marks) t2)) := cm9.keeps kg10
      refine a_cons (e_sub (gCell T10 cm10 (e_slice (ep_some (e_bin (nmL T10 mh (nmL T10 mz (o_addi fun td => ep_some (e_bin (nmL T10 mh (e_bin (e_int fun tf => nmL T10 mz (o_muli (by decide +kernel) fun tg => o_addi fun ti => ep_none fun sl h₇ kk10 e₇ => ?_)))))))))))))
      refine sub_mk (cs := marks.map fun b => if b then 61 else 120) (a := H + S) (b := H + 2 * S) rfl (by omega) (by omega) e₇ (by omega) (by rw [List.length_map]; omega) (by rw [List.length_map]; omega) (fun te => a_nil ⟨fun _ _ e => kk10 _ _ (T10.kp _ _ (kg10 _ _ e)), ?_⟩)
      have emk10 : mk (((marks.map fun b => if b then 61 else 120).drop (H + S)).take (H + 2 * S - (H + S))) = ms ((marks.drop (H + S)).take S) := by rw [show H + 2 * S - (H + S) = S by omega, ← List.map_drop, ← List.map_take]; rfl
      rw [emk10]
      have Dg10 : Wd w g10 := Dg9.kp kg10
      have el10 : g10.get? lp = some (listO (sv zs) nP) := kg10 _ _ el9
      refine run_ f (by omega) (Dg9.kp fun _ _ e => kk10 _ _ (T10.kp _ _ (kg10 _ _ e))) (row := (pairsP row marks H).map (·.2)) (marks := (marks.drop (H + S)).take S) (fun j hj => by obtain ⟨q, hq, rfl⟩ := List.mem_map.mp hj; exact (pairs_lt h8 q hq).2) (by rw [List.length_map, Pl.pairs_len, eH]) (by rw [List.length_take, List.length_drop, eS]; omega) R (fun hr10 tr10 kr10 => ?_)
      refine stL ((T10.ext kk10).ext kr10) fun hs10 Tl => ?_
      have okU := run_ok f (row := (pairsP row marks H).map (·.1)) (marks := (marks.drop H).take S) (by rw [List.length_map, Pl.pairs_len, eH]) (by rw [List.length_take, List.length_drop, eS]; omega) (fun j hj => by obtain ⟨q, hq, rfl⟩ := List.mem_map.mp hj; exact (pairs_lt h8 q hq).1)
      have okL := run_ok f (row := (pairsP row marks H).map (·.2)) (marks := (marks.drop (H + S)).take S) (by rw [List.length_map, Pl.pairs_len, eH]) (by rw [List.length_take, List.length_drop, eS]; omega) (fun j hj => by obtain ⟨q, hq, rfl⟩ := List.mem_map.mp hj; exact (pairs_lt h8 q hq).2)
      generalize hU : runP f ((pairsP row marks H).map (·.1)) ((marks.drop H).take S) = U at *
      generalize hW : runP f ((pairsP row marks H).map (·.2)) ((marks.drop (H + S)).take S) = V at *
      rw [eH] at okU okL
      refine s_cons (s_asg (c_fn (nmB Dg10 Tl g_zip boot_zip' (w_ty (a_cons (nmL Tl rfl (a_cons (nmL Tl rfl (a_cons (e_sub (gCell Tl cm10 ?_)))))))))))
      refine e_slice (ep_some (e_bin (nmL Tl mh (e_bin (e_int fun tf => nmL Tl mz (o_muli (by decide +kernel) fun tg => o_addi fun ti => ep_none (ep_none fun sl h₇ k₇ e₇ => ?_)))))))
      refine sub_mk_from (cs := marks.map fun b => if b then 61 else 120) (a := H + 2 * S) rfl (by omega) e₇ (by rw [List.length_map]; omega) (by rw [List.length_map]; omega) (fun te => a_nil ?_)
      rw [show mk ((marks.map fun b => if b then 61 else 120).drop (H + 2 * S)) = ms (marks.drop (H + 2 * S)) by rw [← List.map_drop]; rfl]
      have lM : (marks.drop (H + 2 * S)).length = H := by rw [List.length_drop]; omega
      generalize marks.drop (H + 2 * S) = M at *
      refine c_zip3 (tx_ascii okU.2) (tx_ascii okL.2) (ms_ascii _) (fun I G h₈ k₈ nG sG it => ?_)
      have Tz := (Tl.ext k₇).pinG k₈ nG sG
      rw [List.append_nil] at Tz
      refine stL Tz fun h₉ Tz' => ?_
      refine s_cons (s_ret (c_me fun pl => e_str fun t => g_join (w_bi (a_cons ?_))))
      refine e_compG (SrcG.zip3 w (tx U) (tx V) (ms M) _ _ _ H (by rw [show (tx U).cps.size = (tx U).length from rfl, tx_len, okU.1]) (by rw [show (tx V).cps.size = (tx V).length from rfl, tx_len, okL.1]) (by rw [show (ms M).cps.size = (ms M).length from rfl, ms_len, lM])) (by omega) R.handled
        (fun i ys g' => Kp g10 g' ∧ ∃ us, ys = sv us ∧ us.flatMap (·.1) = (endsP (U.take i) (V.take i) (M.take i)).map (97 + ·)) (nmL Tz' rfl ⟨I, G, g10, rfl, it, Tz', ?_⟩) rfl (by decide) rfl (by decide)
      refine ⟨⟨fun _ _ e => e, [], rfl, rfl⟩, fun i ys g₁ g₂ ⟨k, z⟩ k' => ⟨fun _ _ e => k' _ _ (k _ _ e), z⟩, ?_, ?_⟩
      · rintro i v C G' D'' nD oL ys g₃ h₆ mc lt hys ⟨Tt, u1, u2, u3, c1, c2, c3, rfl, e1, e2, e3, isT⟩ T₆ ⟨kg3, us, rfl, hus⟩
        obtain ⟨a, ha, rfl⟩ : ∃ a, U[i]? = some a ∧ 97 + a = c1 := by rw [tx_at] at e1; simpa using e1
        obtain ⟨b, hb, rfl⟩ : ∃ b, V[i]? = some b ∧ 97 + b = c2 := by rw [tx_at] at e2; simpa using e2
        obtain ⟨c, hc', rfl⟩ : ∃ c, M[i]? = some c ∧ (if c then 61 else 120) = c3 := by rw [ms_at] at e3; simpa using e3
        have sn : endsP (U.take (i + 1)) (V.take (i + 1)) (M.take (i + 1)) = endsP (U.take i) (V.take i) (M.take i) ++ (if c then [a, b] else [b, a]) := by
          rw [List.take_add_one, List.take_add_one, List.take_add_one, ha, hb, hc']
          exact ends_snoc (by rw [List.length_take, List.length_take, okU.1, okL.1]) (by rw [List.length_take, List.length_take, okL.1, lM])
        refine a_tupI R.handled isT (fun h₇ k₇ => ?_) rfl rfl
        refine io_cons (a_name (gS (T₆.ext k₇) fun h₈ T₈ => io_cons (a_name (gS T₈ fun h₉ T₉ => io_cons (a_name (gS T₉ fun h₁₀ T₁₀ => io_nil (ts_nil ?_)))))))
        refine e_if (t_cmp (gL T₁₀ rfl (e_str fun t => o_eqs (t_bool ?_))))
        rw [eq_mark]
        cases c with
        | true =>
          refine e_bin (gL T₁₀ rfl (gL T₁₀ rfl (o_adds (by show 2 ≤ 2000; decide) fun tt => ⟨g₃, _, T₁₀, kg3, us ++ [([97 + a, 97 + b], tt)], by simp [sv]; rfl, ?_⟩)))
          rw [sn, List.flatMap_append, hus]; simp
        | false =>
          refine e_bin (gL T₁₀ rfl (gL T₁₀ rfl (o_adds (by show 2 ≤ 2000; decide) fun tt => ⟨g₃, _, T₁₀, kg3, us ++ [([97 + b, 97 + a], tt)], by simp [sv]; rfl, ?_⟩)))
          rw [sn, List.flatMap_append, hus]; simp
      · rintro D'' nD ys g₃ h₆ T₆ ⟨kg3, us, rfl, hus⟩ eD
        rw [List.take_of_length_le (by omega), List.take_of_length_le (by omega), List.take_of_length_le (by omega), ← rp] at hus
        have el := ends_len okU.1 okL.1 lM
        rw [← rp] at el
        refine a_nil (c_join0 (T₆.kp _ _ eD) (by rw [hus, List.length_map]; omega) fun tj => ?_)
        rw [hus]
        exact q _ _ fun _ _ e => T₆.kp _ _ (kg3 _ _ (kg10 _ _ (kg9 _ _ (kh2 _ _ e))))
end
end Mine
end
noncomputable section
open PySem PySem.W PySem.Spec PySem.Calls PyProof.Rows
set_option maxRecDepth 100000
set_option autoImplicit false
namespace Mine
open Pl
def EntAt (h : Heap) (T : Addr) (e : Pl.Entry) : Prop := ∃ t1 t2 t3 t4, h.get? T = some (tupO [.str (tx e.1.1) t1, .str (tx e.1.2) t2, .str (tx e.2.1) t3, .int (e.2.2 : Nat) t4])
theorem EntAt.ext {h h' : Heap} {W : List Addr} {T : Addr} {e : Pl.Entry} (z : EntAt h T e) (x : Ext W h h') (n : ∀ a ∈ W, ∀ vs, h.get? a ≠ some (tupO vs)) : EntAt h' T e := by
  obtain ⟨t1, t2, t3, t4, z⟩ := z
  exact ⟨t1, t2, t3, t4, x _ _ (fun q => n _ q _ z) z⟩
theorem g_set (P : Params) : nsIn (K0 P) mainGlobals "_law_set" = some (some (.ref 353)) := by kernel_rfl
theorem g_sides (P : Params) : nsIn (K0 P) mainGlobals "_law_sides" = some (some (.ref 348)) := by kernel_rfl
theorem ns_ne_seq {h : Heap} {L a : Addr} {m : Str → Option Value} {o : Obj} {xs : Array Value} {k : Nat} (n : h.Ns L m) (e : h.get? a = some o) (d : o.data = .seq xs k) : a ≠ L := by
  rintro rfl
  obtain ⟨o', es, ep, e', d', _⟩ := n
  rw [e] at e'; cases e'
  rw [d] at d'; cases d'
theorem ns_ne_inst {h : Heap} {L a C dx : Addr} {m : Str → Option Value} (n : h.Ns L m) (e : h.get? a = some (instObj C dx)) : a ≠ L := by
  rintro rfl
  obtain ⟨o', es, ep, e', d', _⟩ := n
  rw [e] at e'; cases e'
  cases d'
theorem hdr_base {w : World} {g h h' : Heap} {L x d l : Addr} {m : Str → Option Value} {hs : Hs} (T : At g L [] h m) (k : Kp h h') (H : Hdr w h' x d l hs) (nd : h.get? d = none) : ∃ g', At g' L [] h' m ∧ Kp g g' ∧ Hdr w g' x d l hs := by
  have T' := T.ext k
  obtain ⟨g', T2, kg, all⟩ := T'.all
  have np : ∀ a, ∀ p ∈ ([] : List (Addr × Obj)), p.1 ≠ a := fun _ _ q => nomatch q
  refine ⟨g', T2, kg, all _ _ (ns_ne_inst T'.ns H.obj) (np _) H.obj, ?_, ?_⟩
  · obtain ⟨t, e⟩ := H.dict
    refine ⟨t, all _ _ ?_ (np _) e⟩
    rintro rfl
    obtain ⟨o, _, _, e', _⟩ := T.ns
    rw [e'] at nd; cases nd
  · obtain ⟨Ts, n, e, pr⟩ := H.lst
    exact ⟨Ts, n, all _ _ (ns_ne_seq T'.ns e rfl) (np _) e, Paired.imp (fun _ _ z => by
      obtain ⟨t, t', z⟩ := z
      exact ⟨t, t', all _ _ (ns_ne_seq T'.ns z rfl) (np _) z⟩) pr⟩
theorem eq_tx (a b : List Nat) : ((tx a).cps.toList == (tx b).cps.toList) = (a == b) := by
  rw [Bool.eq_iff_iff, beq_iff_eq, beq_iff_eq]
  simp only [tx]
  constructor
  · intro h
    have h2 : ∀ (a b : List Nat), a.map (97 + ·) = b.map (97 + ·) → a = b := by
      intro a
      induction a with
      | nil => intro b h; cases b with | nil => rfl | cons _ _ => simp at h
      | cons x a ih => intro b h; cases b with
        | nil => simp at h
        | cons y b => simp at h; rw [h.1, ih b (by simpa using h.2)]
    exact h2 a b h
  · rintro rfl; rfl
theorem got_some {hs : Hs} {j : Nat} {v : Value} {s : Bool} (z : gotOf hs j v) (e : look hs j = some s) : ∃ t, v = .str (sd s) t := by
  have := got_look z
  rw [e] at this; exact this
theorem sd_mk (s : Bool) : sd s = mk [if s then 61 else 120] := by cases s <;> rfl
theorem evens_ids {row : List Nat} (hl : row.length = 4 ∨ row.length = 8) (t : Tok) : (⟨((slicePicked (tx row) none none (some (2, t))).filterMap ((tx row).cps[·]?)).toArray⟩ : Str) = tx (evens row) := by
  rcases hl with hl | hl
  · match row, hl with
    | [a, b, c, d], _ =>
      have e : slicePicked (tx [a, b, c, d]) none none (some (2, t)) = [0, 2] := by
        show Builtin.Str.strSliceIndices none none 2 (tx [a, b, c, d]).length = _
        rw [tx_len]
        show Builtin.Str.strSliceIndices none none 2 4 = _
        decide +kernel
      rw [e]
      exact Str.ext' rfl
  · match row, hl with
    | [a, b, c, d, e1, f, g, i], _ =>
      have e : slicePicked (tx [a, b, c, d, e1, f, g, i]) none none (some (2, t)) = [0, 2, 4, 6] := by
        show Builtin.Str.strSliceIndices none none 2 (tx [a, b, c, d, e1, f, g, i]).length = _
        rw [tx_len]
        show Builtin.Str.strSliceIndices none none 2 8 = _
        decide +kernel
      rw [e]
      exact Str.ext' rfl
theorem evens_mem : ∀ {l : List Nat} {x : Nat}, x ∈ evens l → x ∈ l
  | [], _, h => by simp [evens] at h
  | [a], _, h => by simpa [evens] using h
  | a :: b :: r, x, h => by
    rw [evens] at h
    rcases List.mem_cons.mp h with rfl | h
    · exact .head _
    · exact .tail _ (.tail _ (evens_mem h))
theorem evens_len : ∀ (l : List Nat), (evens l).length ≤ l.length
  | [] => Nat.le_refl _
  | [a] => Nat.le_refl _
  | a :: b :: r => by rw [evens, List.length_cons, List.length_cons, List.length_cons]; have := evens_len r; omega
section
variable {w : World} {r : Rst} {A : Around} {h : Heap} {env : Env} {Q : Value → Heap → Prop}
theorem setw_leaf (D : Wd w h) {lg : Addr} {row order : List Nat} (hl : row.length = 2) {t1 t2 : Tok} {k : Nat} (R : Room A (k + 4)) (q : ∀ h' t', Kp h h' → Q (.str (ms [row == order]) t') h') : Wp w r A (call (.ref 353) [.str (tx row) t1, .str (tx order) t2, .ref lg]) Q h := by
  refine callFC D R (o := o353 w.params) (binds := [("row", .str (tx row) t1), ("order", .str (tx order) t2), ("log", .ref lg)]) (by kernel_rfl) rfl (by kernel_rfl) rfl (fun n x hx => ?_) (fun L h₁ g hL kg T hc R => ?_) rfl rfl rfl
  · simp only [List.mem_cons, List.not_mem_nil, or_false] at hx
    rcases hx with rfl | rfl | rfl
    · exact .inl rfl
    · exact .inl rfl
    · exact .inl rfl
  have Dg := D.kp kg
  refine s_cons (s_if (t_cmp (c_fn (nmB Dg T g_len boot_len' (w_bi (a_cons (nmL T rfl ?_)))))))
  refine a_nil (c_len (by rw [tx_len]; omega) fun t => e_int fun t => o_eqi (t_bool ?_))
  rw [tx_len, hl]
  refine s_cons (s_ret (e_if (t_cmp (nmL T rfl (nmL T rfl (o_eqs (t_bool ?_)))))))
  rw [eq_tx]
  generalize (row == order) = b at q ⊢
  cases b with
  | true => exact e_str fun t => q _ _ fun _ _ e => T.kp _ _ (kg _ _ e)
  | false => exact e_str fun t => q _ _ fun _ _ e => T.kp _ _ (kg _ _ e)
end
end Mine
end
noncomputable section
open PySem PySem.W PySem.Spec PySem.Calls PyProof.Rows
set_option maxRecDepth 100000
set_option autoImplicit false
namespace Mine
open Pl
theorem cell_ne {h : Heap} {c a : Addr} {v : Option Value} {o : Obj} (z : h.IsCell c v) (e : h.get? a = some o) (n : ∀ v, o.data ≠ .cell v) : a ≠ c := by
  rintro rfl
  obtain ⟨o', e', d⟩ := z
  rw [e] at e'; cases e'
  exact n _ d
theorem cell_not_tup {h : Heap} {c : Addr} {v : Option Value} (z : h.IsCell c v) : ∀ a ∈ [c], ∀ vs, h.get? a ≠ some (tupO vs) := by
  intro a ha vs e
  exact cell_ne z e (fun v => by simp) (List.mem_singleton.mp ha)
theorem Hdr.cell {w : World} {g g' : Heap} {x d l c : Addr} {hs : Hs} {v : Option Value} (H : Hdr w g x d l hs) (z : g.IsCell c v) (e : Ext [c] g g') : Hdr w g' x d l hs := by
  obtain ⟨t, ed⟩ := H.dict
  obtain ⟨Ts, n, el, _⟩ := H.lst
  exact H.ext e (by simpa using cell_ne z H.obj (fun v => by simp)) (by simpa using cell_ne z ed (fun v => by simp)) (by simpa using cell_ne z el (fun v => by simp)) (cell_not_tup z)
theorem IsCell.ext {g g' : Heap} {c : Addr} {v : Option Value} {W : List Addr} (z : g.IsCell c v) (e : Ext W g g') (n : c ∉ W) : g'.IsCell c v := let ⟨o, eo, d⟩ := z; ⟨o, e _ _ n eo, d⟩
structure SF (w : World) (b h g : Heap) (L lg x d l : Addr) (hs : Hs) (m : Str → Option Value) (row order : List Nat) (t1 t2 : Tok) (Ts : List Addr) (es : List Pl.Entry) : Prop where
  ext : Ext [lg] h g
  kb : Kp b g
  c1 : g.IsCell (L + 1) (some (.ref x))
  c2 : ∃ v, g.IsCell (L + 1 + 1) v
  H : Hdr w g x d l hs
  row : m "row" = some (.str (tx row) t1)
  order : m "order" = some (.str (tx order) t2)
  log : m "log" = some (.ref lg)
  lst : ∃ Tn n, g.get? lg = some (listO ((Ts ++ Tn).map .ref) n) ∧ Paired (EntAt g) Tn es ∧ ∀ T ∈ Tn, h.get? T = none
  apart : l ≠ lg
section
variable {w : World} {b h g g' : Heap} {L lg x d l : Addr} {hs : Hs} {m m' : Str → Option Value} {row order : List Nat} {t1 t2 : Tok} {Ts : List Addr} {es : List Pl.Entry}
theorem SF.kp (F : SF w b h g L lg x d l hs m row order t1 t2 Ts es) (k : Kp g g') : SF w b h g' L lg x d l hs m row order t1 t2 Ts es :=
  ⟨fun a o n e => k _ _ (F.ext a o n e), fun _ _ e => k _ _ (F.kb _ _ e), F.c1.keeps k, let ⟨v, z⟩ := F.c2; ⟨v, z.keeps k⟩, F.H.kp k, F.row, F.order, F.log,
    let ⟨Tn, n, e, p, q⟩ := F.lst; ⟨Tn, n, k _ _ e, Paired.imp (fun _ _ z => by obtain ⟨a1, a2, a3, a4, z⟩ := z; exact ⟨a1, a2, a3, a4, k _ _ z⟩) p, q⟩, F.apart⟩
theorem SF.names (F : SF w b h g L lg x d l hs m row order t1 t2 Ts es) (e1 : m' "row" = m "row") (e2 : m' "order" = m "order") (e3 : m' "log" = m "log") : SF w b h g L lg x d l hs m' row order t1 t2 Ts es :=
  ⟨F.ext, F.kb, F.c1, F.c2, F.H, e1.trans F.row, e2.trans F.order, e3.trans F.log, F.lst, F.apart⟩
theorem SF.side (F : SF w b h g L lg x d l hs m row order t1 t2 Ts es) (nb : b.get? (L + 1 + 1) = none) (nh : h.get? (L + 1 + 1) = none) {v : Option Value} (e : Ext [L + 1 + 1] g g') (z : g'.IsCell (L + 1 + 1) v) : SF w b h g' L lg x d l hs m row order t1 t2 Ts es := by
  obtain ⟨v0, z0⟩ := F.c2
  obtain ⟨Tn, n, el, p, q⟩ := F.lst
  refine ⟨fun a o na ea => e a o ?_ (F.ext a o na ea), kpx F.kb e (by simpa using nb), IsCell.ext F.c1 e (by simp), ⟨v, z⟩, F.H.cell z0 e, F.row, F.order, F.log, ⟨Tn, n, e _ _ (by simpa using cell_ne z0 el (fun v => by simp)) el, Paired.imp (fun _ _ y => EntAt.ext y e (cell_not_tup z0)) p, q⟩, F.apart⟩
  simp only [List.mem_singleton]
  rintro rfl
  rw [nh] at ea; cases ea
end
section
variable {w : World} {r : Rst} {A : Around} {b h g : Heap} {env : Env} {Q : Value → Heap → Prop}
theorem set_head (Db : Wd w b) (kb : Kp b h) {lg : Addr} (nl : b.get? lg = none) {Ts : List Addr} {n : Nat} (eL : h.get? lg = some (listO (Ts.map .ref) n)) (hz : Ts.length ≤ 900) {row order : List Nat} (hr : ∀ j ∈ row, j < 8) (ho : ∀ j ∈ order, j < 8) (l4 : row.length = 4 ∨ row.length = 8) (o8 : order.length ≤ 8)
    {hs : Hs} {c : Nat} (es : sidesP row order = some (hs, c)) (hs8 : hs.length ≤ 8) (c8 : c ≤ 100) {t1 t2 : Tok} {k : Nat} (R : Room A (k + 10))
    (fin : ∀ L h₁ g m x d l, At g L [] h₁ m → SF w b h g L lg x d l hs m row order t1 t2 Ts [((row, order), hs.map (·.1), c)] → (∀ p ∈ hs, p.1 < 8) → b.get? (L + 1 + 1) = none → h.get? (L + 1 + 1) = none → Room (A.deeper (envC s507 (fnA 19).2.2 L 353 (.ref 352))) (k + 9) →
      Wp w r (A.deeper (envC s507 (fnA 19).2.2 L 353 (.ref 352))) (execs ((fnA 19).2.1.drop 3) (envC s507 (fnA 19).2.2 L 353 (.ref 352))) (fun fl h' => Q (match fl with | .ret v => v | _ => .none) h') h₁) :
    Wp w r A (call (.ref 353) [.str (tx row) t1, .str (tx order) t2, .ref lg]) Q h := by
  have D := Db.kp kb
  refine callFC D R (o := o353 w.params) (binds := [("row", .str (tx row) t1), ("order", .str (tx order) t2), ("log", .ref lg)]) (by kernel_rfl) rfl (by kernel_rfl) rfl (fun n x hx => ?_) (fun L h₁ g hL kg T hc R => ?_) rfl rfl rfl
  · simp only [List.mem_cons, List.not_mem_nil, or_false] at hx
    rcases hx with rfl | rfl | rfl
    · exact .inl rfl
    · exact .inl rfl
    · exact .inl rfl
  have Dg := D.kp kg
  have lr8 : row.length ≤ 8 := by omega
  have nh1 : h.get? (L + 1) = none := (hc "sides" (L + 1) rfl).2
  have nh2 : h.get? (L + 1 + 1) = none := (hc "side" (L + 1 + 1) rfl).2
  have z1 : g.IsCell (L + 1) none := (hc "sides" (L + 1) rfl).1
  have z2 : g.IsCell (L + 1 + 1) none := (hc "side" (L + 1 + 1) rfl).1
  refine s_cons (s_if (t_cmp (c_fn (nmB Dg T g_len boot_len' (w_bi (a_cons (nmL T rfl ?_)))))))
  refine a_nil (c_len (by rw [tx_len]; omega) fun t => e_int fun t => o_eqi (t_bool ?_))
  rw [tx_len, show ((row.length : Int) == 2) = false from beq_eq_false_iff_ne.mpr (by omega)]
  refine s_nil ?_
  refine s_cons (s_asgT (c_fn (nmK Dg T g_sides (w_fn Dg (fun P => by kernel_rfl) (a_cons (nmL T rfl (a_cons (nmL T rfl (a_nil ⟨T.kp, ?_⟩)))))))))
  refine sides_ (Dg.kp T.kp) hr ho lr8 o8 es (by omega) (by omega) R (fun h₂ Tt x d l tc k₂ eT H h8 nl0 nd0 => ?_)
  obtain ⟨g₁, T₁, kg₁, H₁⟩ := hdr_base T k₂ H nd0
  refine a_tup R.handled eT (fun h₃ k₃ => ?_) rfl rfl
  refine io_cons (a_name (sCell (c := L + 1) (T₁.ext k₃) (z1.keeps kg₁) fun g₂ h₄ T₄ x₂ c₂ => io_cons (a_name (stL T₄ fun h₅ T₅ => io_nil ?_))))
  have kh1 : Kp h g₁ := fun _ _ e => kg₁ _ _ (kg _ _ e)
  have kh2 : Kp h g₂ := kpx kh1 x₂ (by simpa using nh1)
  have H₂ := H₁.cell (z1.keeps kg₁) x₂
  have z22 : g₂.IsCell (L + 1 + 1) none := IsCell.ext (z2.keeps kg₁) x₂ (by simp)
  have eL2 := kh2 _ _ eL
  have D2 : Wd w g₂ := D.kp kh2
  have nll : l ≠ lg := by
    rintro rfl
    rw [T.kp _ _ (kg _ _ eL)] at nl0; cases nl0
  refine s_cons (s_expr (c_me fun pq => nmL T₅ rfl (m_append (T₅.kp _ _ eL2) (w_bi (a_cons (e_tup (a_cons (nmL T₅ rfl (a_cons (nmL T₅ rfl (a_cons (c_me fun pq => c_me fun pq => e_str fun tq => ?_))))))))))))
  refine g_join (w_bi (a_cons (c_me fun pq => gCell T₅ c₂ (m_keys (D2.kp T₅.kp) (H₂.kp T₅.kp) (w_fn0 (D2.kp T₅.kp) (fun P => by kernel_rfl) ?_)))))
  refine keys_ (D2.kp T₅.kp) (H₂.kp T₅.kp) (by omega) (R.le (Nat.le_add_left _ _) : Room _ (6 + 3)) (fun h₆ D' nD zs k₆ eD hzs => a_nil ?_)
  have hfl : zs.flatMap (·.1) = (hs.map (·.1)).map (65 + ·) := by
    rw [List.flatMap_def, hzs]
    clear hzs eD H H₁ H₂ es h8 hs8 fin
    induction hs with
    | nil => rfl
    | cons a l ih => rw [List.map_cons, List.flatten_cons, ih]; rfl
  refine c_join0 eD (by rw [hfl]; simp; omega) fun tj => ?_
  rw [hfl]
  have lu := low_ups (hs.map (·.1)) (fun j hj => by obtain ⟨p, hp, rfl⟩ := List.mem_map.mp hj; exact h8 p hp)
  refine g_lower (w_bi0 (c_lower (by rw [lu]; show decide ((mk ((hs.map (·.1)).map (97 + ·))).cps.size > sizeLine) = false; rw [sizeLine_eq]; simp [mk]; omega) fun tl => ?_))
  rw [lu]
  have T₆ := T₅.ext k₆
  refine a_cons (nmL T₆ rfl (a_nil (n_tup fun Te h₇ k₇ nTe eTe => a_nil ?_)))
  refine c_append (k₇ _ _ (T₆.kp _ _ eL2)) (by rw [List.length_map]; omega) fun h₈ n₈ x₈ e₈ => ?_
  have x78 : Ext [lg] h₆ h₈ := fun a o na e => x₈ _ _ na (k₇ _ _ e)
  refine xcj3 (T₆.anew x78 (fun a ha => by rw [List.mem_singleton.mp ha]; exact ⟨_, eL2⟩)) fun g₃ T₈ x₃ nw => ?_
  have nlg : ∀ a ∈ [lg], ∀ vs, g₂.get? a ≠ some (tupO vs) := by
    intro a ha vs
    rw [List.mem_singleton.mp ha, eL2]
    simp
  have hxl : x ≠ lg := ne_of H₂.obj eL2 (by simp)
  have hdl : d ≠ lg := by obtain ⟨t, e⟩ := H₂.dict; exact ne_of e eL2 (by simp)
  have hTl : Te ≠ lg := by rintro rfl; rw [T₆.kp _ _ eL2] at nTe; cases nTe
  have nh : h.get? Te = none := none_of_ext (Ext.of (fun _ _ e => T₆.kp _ _ (kh2 _ _ e)) []) (by simp) nTe
  refine fin L h₈ g₃ _ x d l T₈ ⟨fun a o na e => x₃ _ _ na (kh2 _ _ e), kpx (fun _ _ e => kh2 _ _ (kb _ _ e)) x₃ (by simpa using nl), IsCell.ext c₂ x₃ (by simpa using (cell_ne c₂ eL2 (fun v => by simp)).symm), ⟨_, IsCell.ext z22 x₃ (by simpa using (cell_ne z22 eL2 (fun v => by simp)).symm)⟩,
    H₂.ext x₃ (by simpa using hxl) (by simpa using hdl) (by simpa using nll) nlg, rfl, rfl, rfl, ⟨[Te], n₈, ?_, .cons ⟨t1, t2, tl, tc, ?_⟩ .nil, by simpa using nh⟩, nll⟩ h8 (none_of_ext (Ext.of kb []) (by simp) nh2) nh2 R
  · have := nw _ _ (.inr (by simp)) e₈
    rw [this]; simp
  · exact nw _ _ (.inl nTe) (x₈ _ _ (by simpa using hTl) eTe)
end
end Mine
end
noncomputable section
open PySem PySem.W PySem.Spec PySem.Calls PyProof.Rows
set_option maxRecDepth 100000
set_option autoImplicit false
namespace Mine
open Pl
theorem evens_at (l : List Nat) (hs : Hs) : marksOf hs l = (evens l).map fun x => (look hs x).getD false := rfl
theorem flat_ms {us : List (List Nat × Tok)} {q : List Bool} (h : us.map (·.1) = q.map (fun b => [if b then 61 else 120])) : us.flatMap (·.1) = q.map fun b => if b then 61 else 120 := by
  rw [List.flatMap_def, h]
  clear h
  induction q with
  | nil => rfl
  | cons a l ih => rw [List.map_cons, List.flatten_cons, ih]; rfl
theorem Paired.impM {α β : Type} {F G : α → β → Prop} : ∀ {l₁ : List α} {l₂ : List β}, (∀ a ∈ l₁, ∀ b, F a b → G a b) → Paired F l₁ l₂ → Paired G l₁ l₂
  | _, _, _, .nil => .nil
  | _, _, k, .cons h t => .cons (k _ (.head _) _ h) (Paired.impM (fun a ha => k a (.tail _ ha)) t)
theorem Paired.app {α β : Type} {F : α → β → Prop} : ∀ {l₁ : List α} {l₂ : List β} {m₁ : List α} {m₂ : List β}, Paired F l₁ l₂ → Paired F m₁ m₂ → Paired F (l₁ ++ m₁) (l₂ ++ m₂)
  | _, _, _, _, .nil, q => q
  | _, _, _, _, .cons h t, q => .cons h (Paired.app t q)
theorem pick_lt {hs : Hs} {b : Bool} {l : List Nat} (h : ∀ j ∈ l, j < 8) : ∀ j ∈ pick hs b l, j < 8 := fun j hj => h j (List.mem_filter.mp hj).1
theorem ms_cat (a b : List Bool) : ms a ++ ms b = ms (a ++ b) := Str.ext' (by show ((ms a).cps ++ (ms b).cps) = _; simp [ms, mk])
theorem marks_le (hs : Hs) (l : List Nat) : (marksOf hs l).length ≤ l.length := by rw [evens_at, List.length_map]; exact evens_len l
theorem eq_sd (a b : Bool) : ((sd a).cps.toList == (sd b).cps.toList) = (a == b) := by cases a <;> cases b <;> kernel_rfl
section
variable {w : World} {r : Rst}
theorem set_ {f : Nat} {row order : List Nat} {marks : List Bool} {log : List Pl.Entry} (S : SetW f row order marks log) : f ≤ 2 → (∀ j ∈ row, j < 8) → (∀ j ∈ order, j < 8) → ∀ {A : Around} {h b : Heap} {Q : Value → Heap → Prop}, Wd w b → Kp b h → ∀ {lg : Addr}, b.get? lg = none → ∀ {Ts : List Addr} {n : Nat}, h.get? lg = some (listO (Ts.map .ref) n) → Ts.length + log.length ≤ 900 → ∀ {t1 t2 : Tok}, Room A (f + 11) →
    (∀ h' t Ts' n', Ext [lg] h h' → (∀ T ∈ Ts', h.get? T = none) → Paired (EntAt h') Ts' log → h'.get? lg = some (listO ((Ts ++ Ts').map .ref) n') → Q (.str (ms marks) t) h') → Wp w r A (call (.ref 353) [.str (tx row) t1, .str (tx order) t2, .ref lg]) Q h := by
  induction S with
  | @leaf row order l1 l2 =>
    intro _ hr ho A h b Q Db kb lg nl Ts n eL hz t1 t2 R q
    refine setw_leaf (Db.kp kb) l1 (R.le (by omega) : Room A (7 + 4)) (fun h' t' k => q h' t' [] n (Ext.of k _) (fun _ q => nomatch q) .nil (by rw [List.append_nil]; exact k _ _ eL))
  | @node f row order hs c m1 m2 l1 l2 lr lo' es hs8 c8 kr ko n1 n2 S1 S2 ih1 ih2 =>
    intro hf hr ho A h b Q Db kb lg nl Ts n eL hz t1 t2 R q
    have l4 : row.length = 4 ∨ row.length = 8 := by
      have : f = 0 ∨ f = 1 := by omega
      rcases this with rfl | rfl
      · exact .inl lr
      · exact .inr lr
    have o4 : order.length = 4 ∨ order.length = 8 := by
      have : f = 0 ∨ f = 1 := by omega
      rcases this with rfl | rfl
      · exact .inl lo'
      · exact .inr lo'
    have mf : mlen f ≤ 6 := by
      have : f = 0 ∨ f = 1 := by omega
      rcases this with rfl | rfl <;> decide
    have lr8 : row.length ≤ 8 := by omega
    have lo8 : order.length ≤ 8 := by omega
    have mr8 := marks_le hs row
    have mo8 := marks_le hs order
    simp only [List.length_cons, List.length_append] at hz
    refine set_head Db kb nl eL (by omega) hr ho l4 lo8 es hs8 c8 (R.le (by omega) : Room A ((f + 2) + 10)) (fun L h₁ g m x d l T F h8 nb2 nh2 R => ?_)
    obtain ⟨e0, he0⟩ : ∃ e0 : Pl.Entry, e0 = ((row, order), hs.map (·.1), c) := ⟨_, rfl⟩
    rw [← he0] at F
    have rx : ∀ y ∈ row, y < 8 ∧ ∃ s, look hs y = some s := fun y hy => ⟨hr y hy, kr y hy⟩
    have ox : ∀ y ∈ order, y < 8 ∧ ∃ s, look hs y = some s := fun y hy => ⟨ho y hy, ko y hy⟩
    refine s_cons (s_asg ?_)
    refine c_me fun pl => e_str fun ta => g_join (w_bi (a_cons ?_))
    refine e_compX (L := L) (P := []) (m := m) R.handled (e_sub (nmL T F.row (e_slice (ep_none (ep_none (ep_some (e_int fun t₆ sl h₂ k₂ e₂ => ?_))))))) rfl (by decide) rfl (by decide)
    refine sub_slice (l := none) (u := none) (st := some (2, t₆)) (y := tx (evens row)) e₂ rfl (evens_ids l4 _) (fun _ z => by cases z) (by rw [tx_len]; have := evens_len row; omega) (fun t₇ => ?_)
    obtain ⟨ItA, SA⟩ := Src.str w (tx (evens row)) t₇
    have elA := evens_len row
    refine ⟨_, _, ItA, _, fun i ys g' => Kp g g' ∧ ∃ us, ys = sv us ∧ us.map (·.1) = ((marksOf hs row).take i).map (fun b => [if b then 61 else 120]), by show (tx (evens row)).length ≤ 1000; rw [tx_len]; omega, SA, g, T.ext k₂,
      ⟨⟨fun _ _ e => e, [], rfl, rfl⟩, fun _ _ _ _ => trivial, fun i ys g₁ g₂ ⟨k, z⟩ k' => ⟨fun _ _ e => k' _ _ (k _ _ e), z⟩, ?_, ?_⟩⟩
    · rintro i v C I o D' nD oL ys g₃ h₆ mc lt hys ⟨c, tc, hc, rfl⟩ T₆ ⟨kg3, us, rfl, hus⟩
      obtain ⟨y, hy, rfl⟩ : ∃ y, (evens row)[i]? = some y ∧ 97 + y = c := by rw [tx_at] at hc; simpa using hc
      obtain ⟨y8, s, ls⟩ := rx y (evens_mem (List.mem_of_getElem? hy))
      have F3 := F.kp kg3
      have D3 := Db.kp F3.kb
      refine a_name (gS T₆ fun h₇ T₇ => ts_nil ?_)
      refine c_me fun pq => gCell T₇ F3.c1 (m_get (D3.kp T₇.kp) (F3.H.kp T₇.kp) (w_fn D3 (fun P => by kernel_rfl) (a_cons (gL T₇ rfl (a_nil ⟨T₇.kp, ?_⟩)))))
      refine get_ (j := y) (D3.kp T₇.kp) (F3.H.kp T₇.kp) h8 y8 (R.le (by omega) : Room _ (2 + 6)) (fun h₉ vg k₉ gl => ?_)
      obtain ⟨tg, rfl⟩ := got_some gl ls
      refine ⟨g₃, _, T₇.ext k₉, kg3, us ++ [([if s then 61 else 120], tg)], by simp [sv, sd_mk], ?_⟩
      rw [List.take_add_one, show (marksOf hs row)[i]? = some s by rw [evens_at, List.getElem?_map, hy, Option.map_some, ls]; rfl, List.map_append, List.map_append, hus]
      rfl
    rintro DA nDA ysA gA hA TA ⟨kgA, usA, rfl, husA⟩ eDA
    have mlA : (marksOf hs row).length ≤ 8 := by rw [evens_at, List.length_map]; omega
    rw [List.take_of_length_le (by rw [evens_at, List.length_map]; show (evens row).length ≤ (tx (evens row)).length; rw [tx_len]; exact Nat.le_refl _)] at husA
    have hflA := flat_ms husA
    refine a_nil (c_join0 (TA.kp _ _ eDA) (by rw [hflA, List.length_map]; omega) fun tjA => ?_)
    rw [hflA]
    refine stL TA fun h₃ T₃ => ?_
    have F₃ : SF w b h gA L lg x d l hs (fun y => if y = "marks" then some (.str (ms (marksOf hs row)) tjA) else m y) row order t1 t2 Ts [e0] := (F.kp kgA).names rfl rfl rfl
    clear T F
    refine s_cons (s_for (e_str fun ts => ?_))
    obtain ⟨It, S⟩ := Src.str w ⟨⟨[61, 120]⟩⟩ ts
    refine lp_src S R.handled (fun i g' m' => SF w b h g' L lg x d l hs m' row order t1 t2 Ts (e0 :: ([l1, l2].take i).flatten) ∧ ∃ tm, m' "marks" = some (.str (ms (marksOf hs row ++ ([m1, m2].take i).flatten)) tm)) T₃ ⟨F₃, tjA, by show some (Value.str (ms (marksOf hs row)) tjA) = some (.str (ms (marksOf hs row ++ [])) tjA); rw [List.append_nil]⟩ (fun _ _ _ _ => trivial) ?_ ?_
    · rintro i v I o g m h₇ lt ⟨ch, tch, hch, rfl⟩ T₇ ⟨F, tm, mm⟩
      obtain ⟨bb, mi, li, hv, em, el, mi6, lil, ih⟩ : ∃ (bb : Bool) (mi : List Bool) (li : List Pl.Entry), (.str ⟨#[ch]⟩ tch : Value) = .str (sd bb) tch ∧ [m1, m2][i]? = some mi ∧ [l1, l2][i]? = some li ∧ mi.length ≤ 6 ∧ ([l1, l2].take i).flatten.length + li.length ≤ l1.length + l2.length ∧
          (f ≤ 2 → (∀ j ∈ pick hs bb row, j < 8) → (∀ j ∈ pick hs bb order, j < 8) → ∀ {A : Around} {h b : Heap} {Q : Value → Heap → Prop}, Wd w b → Kp b h → ∀ {lg : Addr}, b.get? lg = none → ∀ {Ts : List Addr} {n : Nat}, h.get? lg = some (listO (Ts.map .ref) n) → Ts.length + li.length ≤ 900 → ∀ {t1 t2 : Tok}, Room A (f + 11) →
            (∀ h' t Ts' n', Ext [lg] h h' → (∀ T ∈ Ts', h.get? T = none) → Paired (EntAt h') Ts' li → h'.get? lg = some (listO ((Ts ++ Ts').map .ref) n') → Q (.str (ms mi) t) h') → Wp w r A (call (.ref 353) [.str (tx (pick hs bb row)) t1, .str (tx (pick hs bb order)) t2, .ref lg]) Q h) := by
        match i, lt, hch with
        | 0, _, hch => cases hch; exact ⟨true, m1, l1, rfl, rfl, rfl, by omega, by simp, ih1⟩
        | 1, _, hch => cases hch; exact ⟨false, m2, l2, rfl, rfl, rfl, by omega, by simp, ih2⟩
      rw [hv]
      obtain ⟨v2, z2⟩ := F.c2
      refine a_name (sCell (c := L + 1 + 1) T₇ z2 (fun g₁ h₈ T₈ x₈ z₈ => ?_))
      have F₁ := F.side nb2 nh2 x₈ z₈
      refine s_cons (s_asgComp (L := L) (P := [(I, o)]) (m := m) R.handled (e_list (a_cons (nmL T₈ F₁.row (a_cons (nmL T₈ F₁.order (a_nil (n_list fun ll h₉ k₉ nll e₉ => ?_))))))) rfl (by decide) rfl (by decide))
      refine xcj3 (T₈.anew0 k₉) fun g₂ T₉ kg₂ ng₂ => ?_
      have ell : g₂.get? ll = some (listO [.str (tx row) t1, .str (tx order) t2]) := ng₂ _ _ nll e₉
      have F₂ := F₁.kp kg₂
      have z₉ := z₈.keeps kg₂
      refine ⟨2, _, _, _, fun i ys g' => Kp g₂ g' ∧ ∃ us, ys = sv us ∧ us.map (·.1) = ([row, order].take i).map (fun q => (pick hs bb q).map (97 + ·)), by decide, Src.list w ll [.str (tx row) t1, .str (tx order) t2], g₂, T₉,
        ⟨⟨fun _ _ e => e, [], rfl, rfl⟩, fun _ _ g' z => ⟨0, z.1 _ _ ell⟩, fun i ys g₁ g₂ ⟨k, z⟩ k' => ⟨fun _ _ e => k' _ _ (k _ _ e), z⟩, ?_⟩, ?_⟩
      · rintro i₃ v₃ C I' o' D' nD oL ys g₃ h₁₀ mc lt₃ hys hv₃ T₁₀ ⟨k3, us, rfl, hus⟩
        obtain ⟨lns, tl, rfl, hln, ln8, lx⟩ : ∃ lns tl, v₃ = .str (tx lns) tl ∧ [row, order][i₃]? = some lns ∧ lns.length ≤ 8 ∧ ∀ y ∈ lns, y < 8 ∧ ∃ s, look hs y = some s := by
          match i₃, lt₃, hv₃ with
          | 0, _, hv => cases hv; exact ⟨row, t1, rfl, rfl, lr8, rx⟩
          | 1, _, hv => cases hv; exact ⟨order, t2, rfl, rfl, lo8, ox⟩
        refine a_name (gS T₁₀ fun h₁₁ T₁₁ => ts_nil (c_me fun pq => e_str fun ta => g_join (w_bi (a_cons ?_))))
        obtain ⟨It3, S3⟩ := Src.str w (tx lns) tl
        refine e_comp (L := C) (P := (I', o') :: (D', listO (sv us) nD) :: (L, oL) :: (I, o) :: []) S3 (by show (tx lns).length ≤ 1000; rw [tx_len]; omega) R.handled (fun j ys3 g' => Kp g₃ g' ∧ ∃ vs, ys3 = sv vs ∧ vs.flatMap (·.1) = (pick hs bb (lns.take j)).map (97 + ·)) (gL T₁₁ rfl ⟨rfl, g₃, T₁₁, ?_⟩) rfl (by decide) rfl (by decide)
        refine ⟨⟨fun _ _ e => e, [], rfl, rfl⟩, fun _ _ _ _ => trivial, fun i ys g₁ g₂ ⟨k, z⟩ k' => ⟨fun _ _ e => k' _ _ (k _ _ e), z⟩, ?_, ?_⟩
        · rintro j v C3 I3 o3 D3 nD3 oL3 ys3 g₄ h₁₂ mc3 lt3 hys3 ⟨c3, tc3, hc3, rfl⟩ T₁₂ ⟨k4, vs, rfl, hvs⟩
          obtain ⟨y, hy, rfl⟩ : ∃ y, lns[j]? = some y ∧ 97 + y = c3 := by rw [tx_at] at hc3; simpa using hc3
          obtain ⟨y8, s, ls⟩ := lx y (List.mem_of_getElem? hy)
          have F4 := (F₂.kp k3).kp k4
          have D4 := Db.kp F4.kb
          have pk : pick hs bb (lns.take (j + 1)) = pick hs bb (lns.take j) ++ (if s == bb then [y] else []) := by
            rw [List.take_add_one, hy]
            unfold pick
            rw [List.filter_append]
            congr 1
            simp only [Option.toList, List.filter, ls]
            cases s <;> cases bb <;> rfl
          refine a_name (gS T₁₂ fun h₁₃ T₁₃ => ts_one (t_cmp (c_me fun pq => gCell T₁₃ F4.c1 (m_get (D4.kp T₁₃.kp) (F4.H.kp T₁₃.kp) (w_fn D4 (fun P => by kernel_rfl) (a_cons (gL T₁₃ rfl (a_nil ⟨T₁₃.kp, ?_⟩))))))))
          refine get_ (j := y) (D4.kp T₁₃.kp) (F4.H.kp T₁₃.kp) h8 y8 (R.le (by omega) : Room _ (2 + 6)) (fun h₁₄ vg k₁₄ gl => ?_)
          obtain ⟨tg, rfl⟩ := got_some gl ls
          have T₁₄ := T₁₃.ext k₁₄
          refine gCell T₁₄ ((z₉.keeps k3).keeps k4) (o_eqs (t_bool ?_))
          rw [eq_sd]
          cases hsb : s == bb with
          | true =>
            refine gL T₁₄ rfl ⟨g₄, _, T₁₄, k4, vs ++ [([97 + y], tc3)], by simp [sv]; rfl, ?_⟩
            rw [pk, hsb, List.flatMap_append, hvs, List.map_append]; rfl
          | false =>
            refine ⟨g₄, _, T₁₄, k4, vs, rfl, ?_⟩
            rw [pk, hsb, hvs]; simp
        · rintro D3 nD3 ys3 g₄ h₁₂ T₁₂ ⟨k4, vs, rfl, hvs⟩ eD3
          have pkl : (pick hs bb lns).length ≤ 8 := Nat.le_trans (List.length_filter_le _ _) ln8
          rw [List.take_of_length_le (by show lns.length ≤ (tx lns).length; rw [tx_len]; exact Nat.le_refl _)] at hvs
          refine a_nil (c_join0 (T₁₂.kp _ _ eD3) (by rw [hvs, List.length_map]; omega) fun tj => ?_)
          rw [hvs]
          refine ⟨g₄, _, T₁₂, fun _ _ e => k4 _ _ (k3 _ _ e), us ++ [((pick hs bb lns).map (97 + ·), tj)], by simp [sv], ?_⟩
          rw [List.take_add_one, hln, List.map_append, List.map_append, hus]; rfl
      · rintro D' nD ys g₃ h₁₀ T₁₀ ⟨k3, us, rfl, hus⟩ eD
        have F3' : SF w b h g₃ L lg x d l hs (fun z => if z = "inner" then some (.ref D') else m z) row order t1 t2 Ts (e0 :: ([l1, l2].take i).flatten) := (F₂.kp k3).names rfl rfl rfl
        have D3' := Db.kp F3'.kb
        obtain ⟨ua, ub, rfl⟩ : ∃ ua ub, us = [((pick hs bb row).map (97 + ·), ua), ((pick hs bb order).map (97 + ·), ub)] := by
          match us, hus with
          | [p, q'], e =>
            have e1 : p.1 = (pick hs bb row).map (97 + ·) ∧ q'.1 = (pick hs bb order).map (97 + ·) := by
              have e : [p.1, q'.1] = [(pick hs bb row).map (97 + ·), (pick hs bb order).map (97 + ·)] := e
              injection e with a e
              injection e with c _
              exact ⟨a, c⟩
            exact ⟨p.2, q'.2, by rw [← e1.1, ← e1.2]⟩
          | [], e => cases e
          | [_], e =>
            have := congrArg List.length e
            simp at this
          | _ :: _ :: _ :: _, e =>
            have := congrArg List.length e
            simp at this
        refine s_cons (s_aug (ldL T₁₀ mm (c_fn (nmK D3' T₁₀ g_set (w_fn D3' (fun P => by kernel_rfl) (a_cons (e_sub (nmL T₁₀ rfl (e_int fun tc => ?_)))))))))
        refine sub_list (T₁₀.kp _ _ eD) (by decide) (by decide) rfl (a_cons (e_sub (nmL T₁₀ rfl (e_int fun td => ?_))))
        refine sub_list (T₁₀.kp _ _ eD) (by decide) (by decide) rfl (a_cons (nmL T₁₀ F3'.log (a_nil ⟨T₁₀.kp, ?_⟩)))
        obtain ⟨Tn, n₅, eLg, pr, nw⟩ := F3'.lst
        have tnl := Paired.length pr
        refine ih (by omega) (pick_lt hr) (pick_lt ho) Db (fun _ _ e => T₁₀.kp _ _ (F3'.kb _ _ e)) nl (T₁₀.kp _ _ eLg) (by rw [List.length_append, tnl, List.length_cons]; omega) (R.le (by omega)) (fun h₁₁ t Ts' n' x₁₁ nT prT eL' => ?_)
        refine xcj3 (T₁₀.anew x₁₁ (fun a ha => by rw [List.mem_singleton.mp ha]; exact ⟨_, eLg⟩)) fun g₄ T₁₁ x₄ nw4 => ?_
        have nt : ∀ a ∈ [lg], ∀ vs, g₃.get? a ≠ some (tupO vs) := by
          intro a ha vs
          rw [List.mem_singleton.mp ha, eLg]
          simp
        have hxl : x ≠ lg := ne_of F3'.H.obj eLg (by simp)
        have hdl : d ≠ lg := by obtain ⟨t, e⟩ := F3'.H.dict; exact ne_of e eLg (by simp)
        obtain ⟨v9, z9⟩ := F3'.c2
        have ex10 : Ext [lg] h h₁₀ := fun a o na e => T₁₀.kp _ _ (F3'.ext a o na e)
        have F4 : SF w b h g₄ L lg x d l hs (fun z => if z = "inner" then some (.ref D') else m z) row order t1 t2 Ts ((e0 :: ([l1, l2].take i).flatten) ++ li) := by
          refine ⟨F3'.ext.trans x₄, kpx F3'.kb x₄ (by simpa using nl), IsCell.ext F3'.c1 x₄ (by simpa using (cell_ne F3'.c1 eLg (fun v => by simp)).symm), ⟨v9, IsCell.ext z9 x₄ (by simpa using (cell_ne z9 eLg (fun v => by simp)).symm)⟩,
            F3'.H.ext x₄ (by simpa using hxl) (by simpa using hdl) (by simpa using F3'.apart) nt, F3'.row, F3'.order, F3'.log, ⟨Tn ++ Ts', n', ?_, Paired.app (Paired.imp (fun _ _ z => EntAt.ext z x₄ nt) pr) (Paired.impM (fun T hT e z => ?_) prT), ?_⟩, F3'.apart⟩
          · have := nw4 _ _ (.inr (by simp)) eL'
            rw [this, List.append_assoc]
          · obtain ⟨a1, a2, a3, a4, z⟩ := z
            exact ⟨a1, a2, a3, a4, nw4 _ _ (.inl (nT T hT)) z⟩
          · intro T hT
            rcases List.mem_append.mp hT with hT | hT
            · exact nw T hT
            · refine none_of_ext ex10 ?_ (nT T hT)
              simp only [List.mem_singleton]
              rintro rfl
              have := nT _ hT
              rw [T₁₀.kp _ _ eLg] at this; cases this
        have fl2 : (([m1, m2].take i).flatten ++ mi) = ([m1, m2].take (i + 1)).flatten := by rw [List.take_add_one, em]; simp
        have fl3 : ((e0 :: ([l1, l2].take i).flatten) ++ li) = e0 :: ([l1, l2].take (i + 1)).flatten := by rw [List.take_add_one, el]; simp
        have pl : ([m1, m2].take i).flatten.length ≤ 12 := by
          have : ([m1, m2].take i).flatten.length ≤ ([m1, m2] : List (List Bool)).flatten.length := by
            match i with
            | 0 => simp
            | 1 => simp
            | n + 2 => simp
          simp only [List.flatten_cons, List.flatten_nil, List.append_nil, List.length_append] at this
          omega
        refine o_iadds (x := ms (marksOf hs row ++ ([m1, m2].take i).flatten)) (y := ms mi) (by rw [ms_cat, ms_len, List.length_append, List.length_append]; omega) (fun t₂₀ => stL T₁₁ fun h₁₂ T₁₂ => s_nil ⟨g₄, _, T₁₂, ?_, t₂₀, ?_⟩)
        · rw [fl3] at F4
          exact F4.names rfl rfl rfl
        · show some (Value.str (ms (marksOf hs row ++ ([m1, m2].take i).flatten) ++ ms mi) t₂₀) = _
          rw [ms_cat, List.append_assoc, fl2]
    · rintro g m h₇ T₇ ⟨F, tm, mm⟩
      have e8 : ([m1, m2].take (⟨⟨[61, 120]⟩⟩ : Str).cps.size).flatten = m1 ++ m2 := by
        show m1 ++ (m2 ++ []) = _
        rw [List.append_nil]
      rw [e8] at mm
      refine s_cons (s_ret (e_bin (nmL T₇ mm ?_)))
      refine c_me fun pl => e_str fun ta => g_join (w_bi (a_cons ?_))
      refine e_compX (L := L) (P := []) (m := m) R.handled (e_sub (nmL T₇ F.order (e_slice (ep_none (ep_none (ep_some (e_int fun t₆ sl h₂ k₂ e₂ => ?_))))))) rfl (by decide) rfl (by decide)
      refine sub_slice (l := none) (u := none) (st := some (2, t₆)) (y := tx (evens order)) e₂ rfl (evens_ids o4 _) (fun _ z => by cases z) (by rw [tx_len]; have := evens_len order; omega) (fun t₇ => ?_)
      obtain ⟨ItZ, SZ⟩ := Src.str w (tx (evens order)) t₇
      have elZ := evens_len order
      refine ⟨_, _, ItZ, _, fun i ys g' => Kp g g' ∧ ∃ us, ys = sv us ∧ us.map (·.1) = ((marksOf hs order).take i).map (fun b => [if b then 61 else 120]), by show (tx (evens order)).length ≤ 1000; rw [tx_len]; omega, SZ, g, T₇.ext k₂,
        ⟨⟨fun _ _ e => e, [], rfl, rfl⟩, fun _ _ _ _ => trivial, fun i ys g₁ g₂ ⟨k, z⟩ k' => ⟨fun _ _ e => k' _ _ (k _ _ e), z⟩, ?_, ?_⟩⟩
      · rintro i v C I o D' nD oL ys g₃ h₆ mc lt hys ⟨c, tc, hc, rfl⟩ T₆ ⟨kg3, us, rfl, hus⟩
        obtain ⟨y, hy, rfl⟩ : ∃ y, (evens order)[i]? = some y ∧ 97 + y = c := by rw [tx_at] at hc; simpa using hc
        obtain ⟨y8, s, ls⟩ := ox y (evens_mem (List.mem_of_getElem? hy))
        have F3 := F.kp kg3
        have D3 := Db.kp F3.kb
        refine a_name (gS T₆ fun h₇ T₇ => ts_nil ?_)
        refine c_me fun pq => gCell T₇ F3.c1 (m_get (D3.kp T₇.kp) (F3.H.kp T₇.kp) (w_fn D3 (fun P => by kernel_rfl) (a_cons (gL T₇ rfl (a_nil ⟨T₇.kp, ?_⟩)))))
        refine get_ (j := y) (D3.kp T₇.kp) (F3.H.kp T₇.kp) h8 y8 (R.le (by omega) : Room _ (2 + 6)) (fun h₉ vg k₉ gl => ?_)
        obtain ⟨tg, rfl⟩ := got_some gl ls
        refine ⟨g₃, _, T₇.ext k₉, kg3, us ++ [([if s then 61 else 120], tg)], by simp [sv, sd_mk], ?_⟩
        rw [List.take_add_one, show (marksOf hs order)[i]? = some s by rw [evens_at, List.getElem?_map, hy, Option.map_some, ls]; rfl, List.map_append, List.map_append, hus]
        rfl
      rintro DZ nDZ ysZ gZ hZ TZ ⟨kgZ, usZ, rfl, husZ⟩ eDZ
      have mlZ : (marksOf hs order).length ≤ 8 := by rw [evens_at, List.length_map]; omega
      rw [List.take_of_length_le (by rw [evens_at, List.length_map]; show (evens order).length ≤ (tx (evens order)).length; rw [tx_len]; exact Nat.le_refl _)] at husZ
      have hflZ := flat_ms husZ
      refine a_nil (c_join0 (TZ.kp _ _ eDZ) (by rw [hflZ, List.length_map]; omega) fun tjZ => ?_)
      rw [hflZ]
      obtain ⟨Tn, n₅, eLg, pr, nw⟩ := (F.kp kgZ).lst
      rw [show mk ((marksOf hs order).map fun b => if b then 61 else 120) = ms (marksOf hs order) from rfl]
      have ll : (ms (marksOf hs row ++ (m1 ++ m2)) ++ ms (marksOf hs order)).length ≤ 2000 := by
        rw [ms_cat, ms_len]; simp only [List.length_append]; omega
      refine o_adds ll (fun t₂₀ => ?_)
      rw [ms_cat, show marksOf hs row ++ (m1 ++ m2) ++ marksOf hs order = marksOf hs row ++ m1 ++ m2 ++ marksOf hs order by simp only [List.append_assoc]]
      have e9 : e0 :: ([l1, l2].take (⟨⟨[61, 120]⟩⟩ : Str).cps.size).flatten = ((row, order), hs.map (·.1), c) :: (l1 ++ l2) := by
        rw [he0]
        show _ :: (l1 ++ (l2 ++ [])) = _
        rw [List.append_nil]
      have pr2 : Paired (EntAt gZ) Tn (((row, order), hs.map (·.1), c) :: (l1 ++ l2)) := by rw [← e9]; exact pr
      have pr3 : Paired (EntAt hZ) Tn (((row, order), hs.map (·.1), c) :: (l1 ++ l2)) := Paired.imp (fun _ _ z => by
        obtain ⟨a1, a2, a3, a4, z⟩ := z
        exact ⟨a1, a2, a3, a4, TZ.kp _ _ z⟩) pr2
      exact q _ _ Tn n₅ (fun a o na e => TZ.kp _ _ ((F.kp kgZ).ext a o na e)) nw pr3 (TZ.kp _ _ eLg)
end
end Mine
end
noncomputable section
open PySem PySem.W PySem.Spec PySem.Calls PyProof.Rows
set_option maxRecDepth 100000
set_option autoImplicit false
namespace Mine
open Pl
section
variable {w : World} {r : Rst} {A : Around} {h : Heap} {env : Env} {Q : Value → Heap → Prop}
theorem sub_lsl {value slice : Expr} {l sl : Addr} {items : Array Value} {vl vu : Value} {lo hi : Option Int} {ops : List Value} (hl : h.IsList l items) (e : h.get? sl = some { cls := .type "slice", data := .fields #[vl, vu, .none] }) (pl : IsPart vl lo) (pu : IsPart vu hi) (hz : items.size ≤ 1000)
    (q : ∀ a h', Kp h h' → h.get? a = none → h'.get? a = some { cls := .type "list", data := .seq (slicePick items lo hi none) } → Q (.ref a) h')
    (hs : subscripted slice false (.ref l) (.ref sl) = operate ops (getItem (.ref l) (.ref sl)) := by with_unfolding_all rfl) : Wp w r A (subscriptTail value slice (.ref l) (.ref sl)) Q h := by
  refine ⟨fun E tk => ?_⟩
  have g : wpAny (Md w) A (getItem (.ref l) (.ref sl)) (Post r Q) E (stt r h tk) := wpAny_getItem_list_slice (s := stt r h tk) hl ⟨_, e, rfl, rfl⟩ pl pu .none (by simp) ⟨_, tk, rfl, q _ _ (kpush _ _) (fresh_none fun _ _ e => e) (Heap.get?_push_size _ rfl)⟩ (Nat.le_trans hz (Nat.le_trans (by decide) szLine))
  unfold subscriptTail
  refine wpAny_bind ?_
  have hT : (stt r h tk).TypeIs (.ref l) "list" := Heap.IsList.typeIs (s := stt r h tk) hl
  rw [getitemInPython_of_ne hT.not_modules]
  refine wpAny_bind (wpAny_specialOf hT slot_list_getitem.lookup ?_)
  have fin : wpAny (Md w) A (subscripted slice false (.ref l) (.ref sl)) (fun r' s₃ => wpAny (Md w) A (letTemporaryGo value (.ref l) r' >>= fun _ => Pure.pure r') (Post r Q) E s₃) E (stt r h tk) := by
    rw [hs]
    exact wpAny_operating (wpAny_mono g (fun r s₃ h₃ => wpAny_bind (wpAny_letTemporaryGo (wpAny_pure h₃))) fun _ _ x => x)
  first
    | exact wpAny_pure (wpAny_bind fin)
    | exact wpAny_bind (wpAny_pure (wpAny_bind fin))
    | exact wpAny_bind fin
theorem o_addl {l b : Addr} {xs ys : Array Value} {n n2 : Nat} (hl : h.get? l = some { cls := .type "list", data := .seq xs n }) (hb : h.get? b = some { cls := .type "list", data := .seq ys n2 }) (hz : xs.size + ys.size ≤ 1000)
    (q : ∀ a h', Kp h h' → h.get? a = none → h'.get? a = some { cls := .type "list", data := .seq (xs ++ ys) } → Q (.ref a) h') : Wp w r A (binaryOp .Add (.ref l) (.ref b)) Q h :=
  ⟨fun E tk => concat_meets (s := stt r h tk) ⟨_, hl, rfl⟩ ⟨_, hb, rfl⟩ noFill_list_add seq_list_add PySem.F.slot_list_add PySem.F.entry_list_add (PySem.F.args_list_add_2 _ _) (list_addW l b xs ys n n2 none none #[] #[] (Nat.le_trans hz (Nat.le_trans (by decide) szLine)))
    ⟨hl, hb, _, tk, rfl, q _ _ (kpush _ _) (fresh_none fun _ _ e => e) (Heap.get?_push_size _ rfl)⟩⟩
theorem c_lenl {l : Addr} {xs : Array Value} (hl : h.IsList l xs) (hz : xs.size ≤ 1000) (q : ∀ t', Q (.int xs.size t') h) : Wp w r A (call (.builtin "len") [.ref l]) Q h := ⟨fun E tk => len_list (s := stt r h tk) hl (by omega) ⟨h, _, rfl, q _⟩⟩
theorem m_lpop {l : Addr} {vs : List Value} {n : Nat} {pl : Sem Bool} {Q : Value × List Value → Heap → Prop} (e : h.get? l = some (listO vs n)) (q : Q (.builtin "list.pop", [.ref l]) h) : Wp w r A (getMethod (.ref l) "pop" pl) Q h := by
  have z : ∀ tk, Post r Q (.builtin "list.pop", [.ref l]) (stt r h tk) := fun tk => ⟨h, tk, rfl, q⟩
  exact ⟨fun E tk => getMethod_builtin (s := stt r h tk) ⟨_, e, rfl⟩ F.plainAttrs_list F.slot_list_pop F.type_list_pop (fun a ea => by cases ea; exact ⟨_, e, rfl⟩) (z tk)⟩
theorem c_lpop {l : Addr} {vs : List Value} {n k : Nat} {u : Tok} {y : Value} (e : h.get? l = some (listO vs n)) (hz : vs.length ≤ 1000) (hy : vs[k]? = some y) (q : ∀ h' n', Ext [l] h h' → h'.get? l = some (listO (vs.eraseIdx k) n') → Q y h') : Wp w r A (call (.builtin "list.pop") [.ref l, .int (k : Nat) u]) Q h := by
  have hk : k < vs.length := (List.getElem?_eq_some_iff.mp hy).1
  have s1 : vs.toArray.size ≤ sizeLine := by rw [List.size_toArray]; exact Nat.le_trans hz (Nat.le_trans (by decide) szLine)
  have fit : Builtin.List.listFitsIndex (k : Int) = true := by
    unfold Builtin.List.listFitsIndex
    simp; omega
  have si : seqIndex? (k : Int) vs.toArray.size = some k := by
    unfold seqIndex?
    have h1 : ¬ ((k : Int) < 0) := by omega
    simp only [h1, if_false]
    rw [if_pos (by simp; exact hk)]
    simp
  have gy : vs.toArray[k]? = some y := by simpa using hy
  have eo : ∃ n', (h.update l (Obj.mapSeq fun xs => xs.eraseIdxIfInBounds k)).get? l = some (listO (vs.eraseIdx k) n') := by
    refine ⟨if (vs.toArray.eraseIdxIfInBounds k).size == vs.toArray.size then n else n + 1, ?_⟩
    rw [Heap.get?_update_self _ e rfl]
    have : vs.toArray.eraseIdxIfInBounds k = (vs.eraseIdx k).toArray := by
      simp [Array.eraseIdxIfInBounds, hk]
    simp [Obj.mapSeq, this]
  obtain ⟨n', eo⟩ := eo
  have fin := q _ n' (Mine.Ext.upd _ _ _) eo
  refine ⟨fun E tk => ?_⟩
  refine call_meets (s := stt r h tk) F.slot_list_pop ⟨_, e, rfl⟩ F.entry_list_pop (F.args_list_pop_2 _ _) (@PySem.MeetsSeq.list_pop_at l vs.toArray n (k : Int) u k y fit si gy s1) ?_
  exact ⟨e, _, tk, rfl, fin⟩
theorem c_liststr {x : Str} {t : Tok} (hh : A.handled = none) (hz : x.cps.size ≤ 1000) (q : ∀ a h' acc n, Kp h h' → h.get? a = none → h'.get? a = some { cls := .type "list", data := .seq acc n } → ItemsOf (SignAt x) acc x.cps.size → Q (.ref a) h') : Wp w r A (call (.type "list") [.str x t]) Q h :=
  ⟨fun E tk => call_list_str (s := stt r h tk) hh x t (fun h' tk' acc' c' k e it => ⟨h', tk', rfl, q _ _ _ _ k (fresh_none fun _ _ e => e) e it⟩) (Nat.le_trans hz (Nat.le_trans (by decide) szLine))⟩
theorem t_or {x : Expr} {rest : List Expr} {pos : Pos} {whole : Sem Value} {Q : Bool → Heap → Prop} (p : Wp w r A (isTrue x env (eval x env)) (fun c h' => if c then Q true h' else Wp w r A (isTrue (.BoolOp .Or rest pos) env whole) Q h') h) : Wp w r A (isTrue (.BoolOp .Or (x :: rest) pos) env whole) Q h :=
  ⟨fun E tk => isTrue_or (p.into fun c h' tk' q => by cases c <;> first | exact ⟨h', tk', rfl, q⟩ | exact Wp.run q E tk')⟩
theorem t_or0 {pos : Pos} {whole : Sem Value} {Q : Bool → Heap → Prop} (q : Q false h) : Wp w r A (isTrue (.BoolOp .Or [] pos) env whole) Q h := ⟨fun _ tk => isTrue_or_nil ⟨h, tk, rfl, q⟩⟩
theorem o_nei {a b : Int} {t u : Tok} (q : Q (.bool (!(a == b))) h) : Wp w r A (compareOp .NotEq (.int a t) (.int b u)) Q h := ⟨fun _ tk => PySem.P.ne_int ⟨h, tk, rfl, q⟩⟩
theorem o_nes {x y : Str} {t u : Tok} (q : Q (.bool (!(x.cps.toList == y.cps.toList))) h) : Wp w r A (compareOp .NotEq (.str x t) (.str y u)) Q h := ⟨fun _ tk => PySem.P.ne_str (s := stt r h tk) ⟨h, tk, rfl, q⟩⟩
theorem o_eqd {a b : Value} {d : PyData} {as bs : List Addr} (ra : Reads h a d as) (rb : Reads h b d bs) (hd : SeqAt.shaped d = true) (hu : A.units + 64 < cLine) (q : Q (.bool true) h) : Wp w r A (compareOp .Eq a b) Q h :=
  ⟨fun E tk => eq_dataH (s := stt r h tk) ra rb hd hd hu (by rw [SeqAt.eqv_refl _ (SeqAt.canLay_of_shaped hd)]; exact ⟨h, tk, rfl, q⟩)⟩
theorem o_ned {a b : Value} {d : PyData} {as bs : List Addr} (ra : Reads h a d as) (rb : Reads h b d bs) (hd : SeqAt.shaped d = true) (hu : A.units + 64 < cLine) (q : Q (.bool false) h) : Wp w r A (compareOp .NotEq a b) Q h :=
  ⟨fun E tk => ne_dataH (s := stt r h tk) ra rb hd hd hu (by rw [SeqAt.eqv_refl _ (SeqAt.canLay_of_shaped hd)]; exact ⟨h, tk, rfl, q⟩)⟩
theorem o_mull {l : Addr} {xs : Array Value} {k : Nat} {x : Int} {u : Tok} (hl : h.get? l = some { cls := .type "list", data := .seq xs k }) (h0 : 0 ≤ x) (hx : x ≤ 100) (hz : xs.size ≤ 100)
    (q : ∀ a h', Kp h h' → h.get? a = none → h'.get? a = some { cls := .type "list", data := .seq (List.foldl (fun x1 x2 => x1 ++ x2) #[] (List.replicate (if xs.isEmpty = true then 0 else x.toNat) xs)) } → Q (.ref a) h') : Wp w r A (binaryOp .Mult (.ref l) (.int x u)) Q h := by
  have hm : xs.size * x.toNat ≤ 2 ^ 24 := Nat.le_trans (Nat.mul_le_mul hz (by omega : x.toNat ≤ 100)) (by decide)
  exact ⟨fun E tk => wpAny_binaryOp_repeat_ref (s := stt r h tk) (T := "list") (U := "int") (by decide) ⟨_, hl, rfl⟩ (fun s' => typeIs_int s' x u) noFill_list_mul F.fills_int_mul F.slot_int_rmul repeat_list F.slot_int_index.lookup
    (call_meets F.slot_int_rmul (typeIs_int (stt r h tk) x u) F.entry_int_rmul (F.args_int_rmul_2 _ _) (int___rmul___int_list x u l xs k)
      ⟨hl, rfl, ⟨_, hl, rfl⟩, call_meets F.slot_list_mul ⟨_, hl, rfl⟩ F.entry_list_mul (F.args_list_mul_2 _ _)
        (AutoListH.list___mul___list_int_3 l xs k x u (by simp [Builtin.List.listFitsIndex]; omega) (by omega) (by simp [Builtin.List.listTooLong, sizeLine]; omega))
        ⟨hl, _, tk, rfl, q _ _ (kpush _ _) (fresh_none fun _ _ e => e) (Heap.get?_push_size _ rfl)⟩⟩)⟩
end
end Mine
end
noncomputable section
set_option autoImplicit false
namespace Pl
theorem erase_perm : ∀ (l : List Nat) (k : Nat) (hk : k < l.length), (l[k] :: l.eraseIdx k).Perm l
  | [], _, hk => by simp at hk
  | a :: l, 0, _ => .refl _
  | a :: l, k + 1, hk => (List.Perm.swap a _ _).trans ((erase_perm l k (by simpa using hk)).cons a)
theorem draw_perm {ls : List Nat} {od : List Nat} {k j : Nat} (h : ls[k]? = some j) {L : List Nat} (p : (od ++ ls).Perm L) : ((od ++ [j]) ++ ls.eraseIdx k).Perm L := by
  obtain ⟨hk, rfl⟩ := List.getElem?_eq_some_iff.mp h
  have := erase_perm ls k hk
  rw [List.append_assoc]
  exact (List.Perm.append_left od this).trans p
def RingOk (e : Entry) (rs : List (List Nat)) : Prop := ringsP e.1.1 e.1.2 = some rs ∧ e.2.1 = rs.flatten ∧ e.2.2 = 2 * rs.flatten.length + rs.length ∧ (∀ r ∈ rs, r.length ≤ 8) ∧ rs.length ≤ 8 ∧ rs.flatten.length ≤ 8 ∧ (∀ x ∈ e.1.1, x < 8) ∧ (∀ x ∈ e.1.2, x < 8) ∧ e.1.1.length ≤ 8 ∧ e.1.2.length ≤ 8 ∧ e.2.1.length ≤ 8 ∧ ∀ x ∈ e.2.1, x < 8
theorem ring_ok {f : Nat} {row order : List Nat} {marks : List Bool} {log : List Entry} (S : SetOk f row order marks log) : ∀ e ∈ log, ∃ rs, RingOk e rs := by
  intro e he
  obtain ⟨hs, rs, G, e1, h8, hn, hp, n, hn5, hl⟩ := S.each e he
  have e2 : e.2.1 = rs.flatten := e1.trans G.came
  have h1 := congrArg List.length G.came
  rw [List.length_map] at h1
  have h2 := G.len
  have h3 := hp.length_eq
  refine ⟨rs, G.rings, e2, G.cnt, G.rl, G.rn, by omega, h8, fun x hx => h8 x (hp.mem_iff.mp hx), by omega, by omega, ?_, ?_⟩
  · rw [e1, List.length_map]; omega
  · intro x hx
    rw [e1] at hx
    obtain ⟨p, hp, rfl⟩ := List.mem_map.mp hx
    exact G.keys p hp
theorem law_ok {order : List Nat} (hp : order.Perm (List.range 8)) : ∃ marks e1 e2 e3 r1 r2 r3, SetW 2 (List.range 8) order marks [e1, e2, e3] ∧ marks.length = 20 ∧ marks[0]? = some true ∧ marks[4]? = some true ∧ marks[10]? = some true ∧ runP 2 (List.range 8) marks = order ∧ RingOk e1 r1 ∧ RingOk e2 r2 ∧ RingOk e3 r3 := by
  obtain ⟨marks, log, S, l, m0, m4, m10, n⟩ := set8 hp
  match log, n, S with
  | [e1, e2, e3], _, S =>
    obtain ⟨r1, h1⟩ := ring_ok S e1 (by simp)
    obtain ⟨r2, h2⟩ := ring_ok S e2 (by simp)
    obtain ⟨r3, h3⟩ := ring_ok S e3 (by simp)
    exact ⟨marks, e1, e2, e3, r1, r2, r3, S.set, l, m0, m4, m10, S.run, h1, h2, h3⟩
end Pl
end
noncomputable section
open PySem PySem.W PySem.Spec PySem.Calls PyProof.Rows
set_option maxRecDepth 100000
set_option autoImplicit false
namespace Mine
open Pl
theorem seq_base {g h h' : Heap} {L : Addr} {m : Str → Option Value} (T : At g L [] h m) (k : Kp h h') : ∃ g', At g' L [] h' m ∧ Kp g g' ∧ ∀ a o xs n, h'.get? a = some o → o.data = .seq xs n → g'.get? a = some o := by
  have T' := T.ext k
  obtain ⟨g', T2, kg, all⟩ := T'.all
  exact ⟨g', T2, kg, fun a o xs n e d => all _ _ (ns_ne_seq T'.ns e d) (fun _ q => nomatch q) e⟩
def lv (ls : List (Nat × Tok)) : List Value := ls.map fun p => .str (lo p.1) p.2
theorem signs_lv {acc : Array Value} : ∀ (n : Nat), (∀ j < n, ∃ u, acc[j]? = some (.str (lo j) u)) → ∃ ls, acc.toList.take n = lv ls ∧ ls.map (·.1) = List.range n
  | 0, _ => ⟨[], by simp [lv], by simp⟩
  | n + 1, h => by
    obtain ⟨ls, e1, e2⟩ := signs_lv n fun j hj => h j (by omega)
    obtain ⟨u, eu⟩ := h n (by omega)
    refine ⟨ls ++ [(n, u)], ?_, ?_⟩
    · rw [List.take_add_one, e1, show acc.toList[n]? = some (.str (lo n) u) by simpa using eu]
      simp [lv]
    · rw [List.map_append, e2, List.range_succ]; rfl
theorem pick_ids {items : Array Value} {lo hi : Option Int} {b : Int × Int × Int} {ids : List Nat} (hb : sliceBounds lo hi none items.size = b) (hr : sliceRange b.1 b.2.1 b.2.2 = ids) : slicePick items lo hi none = (ids.filterMap (items[·]?)).toArray := by
  unfold slicePick
  rw [hb, hr]
theorem slice2 (xs : Array Value) : slicePick xs none (some 2) none = (xs.toList.take 2).toArray := by
  obtain ⟨l⟩ := xs
  match l with
  | [] => rw [pick_ids (b := (0, 0, 1)) (ids := []) rfl (by decide)]; rfl
  | [a] => rw [pick_ids (b := (0, 1, 1)) (ids := [0]) rfl (by decide)]; rfl
  | a :: b :: r =>
    rw [pick_ids (b := (0, 2, 1)) (ids := [0, 1]) (by unfold sliceBounds; simp; omega) (by decide)]; rfl
theorem slice_tail (t u : Tok) (n : Nat) : ∃ ys, slicePick #[.int 14818 t, .int 6 u] (some (n : Int)) none none = ys.toArray ∧ (n = 0 → ys = [.int 14818 t, .int 6 u]) ∧ (n = 1 → ys = [.int 6 u]) ∧ (2 ≤ n → ys = []) := by
  match n with
  | 0 => exact ⟨_, pick_ids (b := (0, 2, 1)) (ids := [0, 1]) rfl (by decide), fun _ => rfl, by simp, by simp⟩
  | 1 => exact ⟨_, pick_ids (b := (1, 2, 1)) (ids := [1]) rfl (by decide), by simp, fun _ => rfl, by simp⟩
  | n + 2 => exact ⟨[], pick_ids (b := (2, 2, 1)) (ids := []) (by unfold sliceBounds; simp; omega) (by decide), by simp, by simp, fun _ => rfl⟩
theorem numbers_two {xs : Array Value} {ns : List Int} (hi : IntsAre xs.toList ns) (t u : Tok) : ∃ i0 t0 i1 t1, slicePick xs none (some 2) none ++ slicePick #[.int 14818 t, .int 6 u] (some (xs.size : Int)) none none = #[.int i0 t0, .int i1 t1] := by
  obtain ⟨ys, e, y0, y1, y2⟩ := slice_tail t u xs.size
  rw [slice2, e]
  obtain ⟨l⟩ := xs
  match l, ns, hi with
  | [], _, _ => rw [y0 rfl]; exact ⟨_, _, _, _, rfl⟩
  | [v], ns, hi =>
    rw [y1 rfl]
    cases hi with
    | cons n t _ => exact ⟨_, _, _, _, rfl⟩
  | v :: v' :: r, ns, hi =>
    rw [y2 (by simp)]
    cases hi with
    | cons n t hr =>
      cases hr with
      | cons n' t' _ => exact ⟨_, _, _, _, rfl⟩
end Mine
end
noncomputable section
open PySem PySem.W PySem.Spec PySem.Calls PyProof.Rows
set_option maxRecDepth 100000
set_option autoImplicit false
namespace Mine
open Pl
theorem g_listT (P : Params) : nsIn (K0 P) mainGlobals "list" = some none := by kernel_rfl
theorem lst_kp {h h' : Heap} {a : Addr} {xs : Array Value} (l : h.IsList a xs) (k : Kp h h') : h'.IsList a xs := let ⟨o, e, c, d⟩ := l; ⟨o, k _ _ e, c, d⟩
theorem erase_map {α β : Type} (f : α → β) : ∀ (l : List α) (k : Nat), (l.map f).eraseIdx k = (l.eraseIdx k).map f
  | [], _ => rfl
  | _ :: _, 0 => rfl
  | a :: l, k + 1 => congrArg (f a :: ·) (erase_map f l k)
theorem lv_len (ls : List (Nat × Tok)) : (lv ls).length = ls.length := by simp [lv]
section
variable {w : World} {r : Rst} {A : Around} {h : Heap} {Q : Value → Heap → Prop}
theorem law_a (D : Wd w h) {ax : Addr} {xs : Array Value} {ns : List Int} (hl : h.IsList ax xs) (hi : IntsAre xs.toList ns) (hn : xs.size ≤ 63) {k : Nat} (R : Room A (k + 1))
    (fin : ∀ L h₁ g m na n i0 t0 i1 t1 od to, At g L [] h₁ m → Kp h g → m "numbers" = some (.ref na) → g.get? na = some (listO [.int i0 t0, .int i1 t1] n) → m "order" = some (.str (tx od) to) → od.Perm (List.range 8) → Room (A.deeper (envX s513 (fnA 22).2.2 L 370 (.ref 369) [])) k →
      Wp w r (A.deeper (envX s513 (fnA 22).2.2 L 370 (.ref 369) [])) (execs ((fnA 22).2.1.drop 5) (envX s513 (fnA 22).2.2 L 370 (.ref 369) [])) (fun fl h' => Q (match fl with | .ret v => v | _ => .none) h') h₁) :
    Wp w r A (call (.ref 370) [.ref ax]) Q h := by
  refine callF D R (o := o370 w.params) (binds := [("script", .ref ax)]) (by kernel_rfl) rfl (by kernel_rfl) (fun tk => BindsTo.of_eq rfl) (by rfl) (fun L h₁ hL T R => ?_) (by decide) rfl rfl rfl
  refine s_cons (s_asg (e_bin (e_sub (nmL T rfl (e_slice (ep_none (ep_some (e_int fun t₁ => ep_none fun sl h₂ k₂ e₂ => ?_))))))))
  have T₂ := T.ext k₂
  refine sub_lsl (lst_kp hl T₂.kp) e₂ .none (.int 2 t₁) (by omega) (fun a1 h₃ k₃ n₃ e₃ => ?_)
  have T₃ := T₂.ext k₃
  refine e_sub (e_list (a_cons (e_int fun t₂ => a_cons (e_int fun t₃ => a_nil (n_list fun a2 h₄ k₄ n₄ e₄ => ?_)))))
  have T₄ := T₃.ext k₄
  refine e_slice (ep_some (c_fn (nmB D T₄ g_len boot_len' (w_bi (a_cons (nmL T₄ rfl (a_nil ?_)))))))
  refine c_lenl (lst_kp hl T₄.kp) (by omega) (fun t₄ => ep_none (ep_none fun sl2 h₅ k₅ e₅ => ?_))
  have T₅ := T₄.ext k₅
  refine sub_lsl (items := #[.int 14818 t₂, .int 6 t₃]) ⟨_, k₅ _ _ e₄, rfl, 0, rfl⟩ e₅ (.int _ t₄) .none (by show 2 ≤ 1000; decide) (fun a3 h₆ k₆ n₆ e₆ => ?_)
  have T₆ := T₅.ext k₆
  obtain ⟨i0, u0, i1, u1, eN⟩ := numbers_two hi t₂ t₃
  refine o_addl (k₆ _ _ (k₅ _ _ (k₄ _ _ e₃))) e₆ ?_ (fun na h₇ k₇ n₇ e₇ => ?_)
  · have := congrArg Array.size eN
    rw [Array.size_append] at this
    rw [this]; simp
  rw [eN] at e₇
  obtain ⟨g₁, T₇, kg₁, all₁⟩ := seq_base T₆ k₇
  have e7 : g₁.get? na = some (listO [.int i0 u0, .int i1 u1]) := all₁ _ _ _ _ e₇ rfl
  refine stL T₇ fun h₈ T₈ => ?_
  refine s_cons (s_asg (e_bin (e_sub (nmL T₈ rfl (e_int fun t₅ => sub_list (T₈.kp _ _ e7) (by decide) (by decide) rfl (e_int fun t₆ => o_modi (by decide) fun t₇ => stL T₈ fun h₉ T₉ => ?_))))))
  have m0 : 0 ≤ i0.fmod 40320 := Int.fmod_nonneg_of_pos _ (by decide)
  have m1 : i0.fmod 40320 < 40320 := Int.fmod_lt_of_pos _ (by decide)
  have D₁ := D.kp kg₁
  refine s_cons (s_asg (c_fn (nmB D₁ T₉ g_listT boot_list (w_ty (a_cons (e_str fun t₈ => a_nil (c_liststr R.handled (by decide) fun la h₁₀ acc nc k₁₀ n₁₀ e₁₀ it => ?_)))))))
  obtain ⟨g₂, T₁₀, kg₂, all₂⟩ := seq_base T₉ k₁₀
  obtain ⟨ls0, el0, el1⟩ : ∃ ls, acc.toList = lv ls ∧ ls.map (·.1) = List.range 8 := by
    obtain ⟨sz, at'⟩ := it
    have sz8 : acc.size = 8 := sz
    obtain ⟨ls, e1, e2⟩ := signs_lv (acc := acc) 8 (fun j hj => by
      have : acc[j]? = some acc[j] := by simp [sz8, hj]
      obtain ⟨c, u, hc, hv⟩ := at' j _ this
      rw [this, hv]
      refine ⟨u, ?_⟩
      have : c = 97 + j := by
        match j, hj, hc with
        | 0, _, hc => cases hc; rfl
        | 1, _, hc => cases hc; rfl
        | 2, _, hc => cases hc; rfl
        | 3, _, hc => cases hc; rfl
        | 4, _, hc => cases hc; rfl
        | 5, _, hc => cases hc; rfl
        | 6, _, hc => cases hc; rfl
        | 7, _, hc => cases hc; rfl
      rw [this]; rfl)
    rw [List.take_of_length_le (by rw [Array.length_toList, sz8]; exact Nat.le_refl _)] at e1
    exact ⟨ls, e1, e2⟩
  have e10 : g₂.get? la = some (listO (lv ls0) nc) := by
    rw [← el0]
    have := all₂ _ _ _ _ e₁₀ rfl
    simpa using this
  have la0 : h.get? la = none := none_of_ext (Ext.of (fun _ _ e => T₉.kp _ _ (kg₁ _ _ e)) []) (by simp) n₁₀
  have nla : na ≠ la := by rintro rfl; rw [T₉.kp _ _ e7] at n₁₀; cases n₁₀
  refine stL T₁₀ fun h₁₁ T₁₁ => ?_
  refine s_cons (s_asg (e_str fun t₉ => stL T₁₁ fun h₁₂ T₁₂ => ?_))
  have D₂ := D₁.kp kg₂
  refine s_cons (s_for (c_fn (nmB D₂ T₁₂ g_range boot_range' (w_ty (a_cons (e_int fun ta => a_cons (e_int fun tb => a_cons (e_neg (e_int fun tc => ⟨1, _, rfl, fun td => ?_⟩)))))))))
  refine a_nil (c_range3 (by decide) (by decide) fun rg h₁₃ k₁₃ nr er => ?_)
  refine xcj3 (T₁₂.anew0 k₁₃) fun g₃ T₁₃ kg₃ ng₃ => ?_
  have er3 : IsRange g₃ rg 8 0 (-1) ta tb td := ng₃ _ _ nr er
  have rla : la ≠ rg := by rintro rfl; rw [T₁₂.kp _ _ e10] at nr; cases nr
  refine lp_src (Src.range w rg 8 0 (-1) 8 (by decide) (by decide)) R.handled (fun i g m => Kp h g ∧ IsRange g rg 8 0 (-1) ta tb td ∧ m "numbers" = some (.ref na) ∧ m "left" = some (.ref la) ∧ g.get? na = some (listO [.int i0 u0, .int i1 u1]) ∧
    ∃ ls n num tn od to, g.get? la = some (listO (lv ls) n) ∧ m "number" = some (.int num tn) ∧ 0 ≤ num ∧ num < 40320 ∧ m "order" = some (.str (tx od) to) ∧ (od ++ ls.map (·.1)).Perm (List.range 8) ∧ ls.length = 8 - i) T₁₃
    ⟨fun _ _ e => kg₃ _ _ (kg₂ _ _ (kg₁ _ _ e)), er3, rfl, rfl, kg₃ _ _ (kg₂ _ _ e7), ls0, nc, _, t₇, [], t₉, kg₃ _ _ e10, rfl, m0, m1, rfl, by rw [List.nil_append, el1], by have := congrArg List.length el1; simpa using this⟩ (fun i g m z => ⟨_, _, _, z.2.1⟩) ?_ ?_
  · rintro i v I o g m h₁₄ lt ⟨tv, rfl⟩ T₁₄ zz; refine cj6 zz fun kg er mn ml en zz0 => ?_; clear zz; refine xj6 zz0 fun ls n num tn od to zz1 => ?_; clear zz0; refine cj7 zz1 fun el mnum p0 p1 mo pm ll => ?_; clear zz1
    rw [show (8 + (i : Int) * (-1)) = ((8 - i : Nat) : Int) by omega]
    have s0 : 0 < 8 - i := by omega
    generalize hs : 8 - i = s at *
    obtain ⟨N, rfl⟩ : ∃ N : Nat, num = (N : Int) := ⟨num.toNat, by omega⟩
    have hk : N % s < ls.length := by rw [ll]; exact Nat.mod_lt _ s0
    obtain ⟨⟨j, u⟩, hj⟩ : ∃ p, ls[N % s]? = some p := ⟨_, List.getElem?_eq_getElem hk⟩
    have hj1 : (ls.map (·.1))[N % s]? = some j := by rw [List.getElem?_map, hj]; rfl
    have odl : od.length ≤ 8 := by
      have := pm.length_eq
      rw [List.length_append, List.length_range] at this
      omega
    refine a_name (stL T₁₄ fun h₁₅ T₁₅ => ?_)
    refine s_cons (s_aug (ldL T₁₅ mo (c_me fun pq => nmL T₁₅ ml (m_lpop (T₁₅.kp _ _ el) (w_bi (a_cons (e_bin (nmL T₁₅ mnum (nmL T₁₅ rfl (o_modi (by omega) fun t₂₀ => ?_))))))))))
    rw [show ((N : Int)).fmod ((s : Nat) : Int) = ((N % s : Nat) : Int) by rw [Int.fmod_eq_emod_of_nonneg _ (by omega)]; rfl]
    refine a_nil (c_lpop (T₁₅.kp _ _ el) (by rw [lv_len]; omega) (y := .str (lo j) u) (by simp [lv, hj]) fun h₁₆ n' x₁₆ e₁₆ => ?_)
    refine xcj3 (T₁₅.anew x₁₆ (fun a ha => by rw [List.mem_singleton.mp ha]; exact ⟨_, el⟩)) fun g' T₁₆ x' nw => ?_
    rw [lo_tx]
    refine o_iadds (x := tx od) (y := tx [j]) (by rw [tx_cat, tx_len]; simp; omega) (fun t₂₁ => stL T₁₆ fun h₁₇ T₁₇ => ?_)
    refine s_cons (s_aug (ldL T₁₇ mnum (nmL T₁₇ rfl (o_idivi (by omega) (by simp; omega) fun t₂₂ => stL T₁₇ fun h₁₈ T₁₈ => s_nil ?_))))
    have nr' : rg ∉ [la] := by simpa using (ne_of (h := g) er el (by intro z; injection z with z1 z2; simp at z1))
    refine ⟨g', _, T₁₈, kpx kg x' (by simpa using la0), x' _ _ nr' er, mn, ml, x' _ _ (by simpa using nla) en, ls.eraseIdx (N % s), n', (N : Int).fdiv (s : Int), t₂₂, od ++ [j], t₂₁, ?_, rfl, ?_, ?_, ?_, ?_, ?_⟩
    · have := nw _ _ (.inr (by simp)) e₁₆
      rw [this, show (lv ls).eraseIdx (N % s) = lv (ls.eraseIdx (N % s)) from erase_map _ _ _]
    · rw [Int.fdiv_eq_ediv_of_nonneg _ (by omega)]; exact Int.ediv_nonneg (by omega) (by omega)
    · rw [Int.fdiv_eq_ediv_of_nonneg _ (by omega)]
      have : (N : Int) / (s : Int) ≤ N := Int.ediv_le_self _ (by omega)
      omega
    · show some (Value.str (tx od ++ tx [j]) t₂₁) = _
      rw [tx_cat]
    · rw [← erase_map]
      exact draw_perm hj1 pm
    · rw [List.length_eraseIdx, if_pos hk]; omega
  · rintro g m h₁₄ T₁₄ zz; refine cj6 zz fun kg er mn ml en zz0 => ?_; clear zz; refine xj6 zz0 fun ls n num tn od to zz1 => ?_; clear zz0; refine cj7 zz1 fun el mnum p0 p1 mo pm ll => ?_; clear zz1
    have : ls = [] := List.eq_nil_of_length_eq_zero (by simpa using ll)
    subst this
    rw [List.map_nil, List.append_nil] at pm
    exact fin L h₁₄ g m na 0 i0 u0 i1 u1 od to T₁₄ kg mn en mo pm R
end
end Mine
end
noncomputable section
open PySem PySem.W PySem.Spec PySem.Calls PyProof.Rows
set_option maxRecDepth 100000
set_option autoImplicit false
namespace Mine
open Pl
theorem g_read (P : Params) : nsIn (K0 P) mainGlobals "_law_read" = some (some (.ref 341)) := by kernel_rfl
theorem g_rings (P : Params) : nsIn (K0 P) mainGlobals "_law_rings" = some (some (.ref 360)) := by kernel_rfl
def RsAt (h : Heap) (a : Addr) (rs : List (List Nat)) : Prop := ∃ n zs, h.get? a = some (listO (sv zs) n) ∧ zs.map (·.1) = rs.map (fun r => r.map (97 + ·))
def PrAt (h : Heap) (a : Addr) (p : List Nat × Nat) : Prop := ∃ t t', h.get? a = some (tupO [.str (tx p.1) t, .int (p.2 : Nat) t'])
theorem RsAt.kp {h h' : Heap} {a : Addr} {rs : List (List Nat)} (z : RsAt h a rs) (k : Kp h h') : RsAt h' a rs := let ⟨n, zs, e, q⟩ := z; ⟨n, zs, k _ _ e, q⟩
theorem PrAt.kp {h h' : Heap} {a : Addr} {p : List Nat × Nat} (z : PrAt h a p) (k : Kp h h') : PrAt h' a p := let ⟨t, t', e⟩ := z; ⟨t, t', k _ _ e⟩
theorem reads_pr {h : Heap} : ∀ {As : List Addr} {ps : List (List Nat × Nat)}, Paired (PrAt h) As ps → ∃ as, ReadsAll h (As.map Value.ref) (ps.map fun p => PyData.tuple [.str (tx p.1), .int (p.2 : Nat)]) as
  | [], [], .nil => ⟨_, .nil⟩
  | a :: As, p :: ps, .cons ⟨t, t', e⟩ r => by
    obtain ⟨as, q⟩ := reads_pr r
    have r1 : ReadsAll h [.str (tx p.1) t, .int (p.2 : Nat) t'] [.str (tx p.1), .int (p.2 : Nat)] _ := .cons (Reads.str _ t) (.cons (Reads.int _ t') .nil)
    exact ⟨_, .cons (reads_tuple_at e rfl rfl r1) q⟩
theorem strOk_tx (l : List Nat) (h : ∀ x ∈ l, x < 8) : PyData.strOk (tx l) = true := by
  simp only [PyData.strOk, tx, List.all_toArray, List.all_map, List.all_eq_true, Function.comp, decide_eq_true_eq]
  intro j hj
  have := h j hj
  omega
section
variable {w : World} {r : Rst} {A : Around} {b g h : Heap} {Q : Flow → Heap → Prop}
theorem law_b (Db : Wd w b) {L na : Addr} {m : Str → Option Value} {n : Nat} {i0 i1 : Int} {t0 t1 to : Tok} {od : List Nat} (T : At g L [] h m) (kb : Kp b g) (mn : m "numbers" = some (.ref na)) (en : g.get? na = some (listO [.int i0 t0, .int i1 t1] n)) (mo : m "order" = some (.str (tx od) to)) (pm : od.Perm (List.range 8)) {k : Nat} (R : Room A (k + 20))
    (q : ∀ h', Kp b h' → Q (.ret (.bool true)) h') : Wp w r A (execs ((fnA 22).2.1.drop 5) (envX s513 (fnA 22).2.2 L 370 (.ref 369) [])) Q h := by
  obtain ⟨marks, e1, e2, e3, r1, r2, r3, SW, ml, m0, m4, m10, run, k1, k2, k3⟩ := law_ok pm
  have od8 : ∀ j ∈ od, j < 8 := fun j hj => List.mem_range.mp (pm.mem_iff.mp hj)
  have odl : od.length = 8 := pm.length_eq
  have r8 : ∀ j ∈ List.range 8, j < 8 := fun j hj => List.mem_range.mp hj
  refine s_cons (s_asg (e_list (a_nil (n_list fun lg h₂ k₂ nlg e₂ => ?_))))
  refine xcj3 (T.anew0 k₂) fun g₁ T₂ kg₁ ng₁ => ?_
  have el : g₁.get? lg = some (listO []) := ng₁ _ _ nlg e₂
  have nl : b.get? lg = none := none_of_ext (Ext.of (fun _ _ e => T.kp _ _ (kb _ _ e)) []) (by simp) nlg
  have kb1 : Kp b g₁ := fun _ _ e => kg₁ _ _ (kb _ _ e)
  have D₁ := Db.kp kb1
  have en1 := kg₁ _ _ en
  refine stL T₂ fun h₃ T₃ => ?_
  refine s_cons (s_asg (c_fn (nmK D₁ T₃ g_set (w_fn D₁ (fun P => by kernel_rfl) (a_cons (c_fn (nmK D₁ T₃ g_read (w_fn D₁ (fun P => by kernel_rfl) (a_cons (e_str fun ta => ?_))))))))))
  refine a_cons (e_sub (nmL T₃ mn (e_int fun tb => sub_list (T₃.kp _ _ en1) (by decide) (by decide) rfl (a_nil ⟨T₃.kp, ?_⟩))))
  refine read_ (js := List.range 8) (D₁.kp T₃.kp) r8 (by decide) (R.le (by omega) : Room A ((k + 14) + 6)) (fun h₄ tr1 k₄ => ?_)
  have T₄ := T₃.ext k₄
  refine a_cons (c_fn (nmK D₁ T₄ g_read (w_fn D₁ (fun P => by kernel_rfl) (a_cons (nmL T₄ mo (a_cons (e_bin (e_sub (nmL T₄ mn (e_int fun tc => ?_))))))))))
  refine sub_list (T₄.kp _ _ en1) (by decide) (by decide) rfl (e_int fun td => o_addi fun te => a_nil ⟨T₄.kp, ?_⟩)
  refine read_ (js := od) (D₁.kp T₄.kp) od8 (by omega) (R.le (by omega) : Room A ((k + 14) + 6)) (fun h₅ tr2 k₅ => ?_)
  have T₅ := T₄.ext k₅
  refine a_cons (nmL T₅ rfl (a_nil ⟨T₅.kp, ?_⟩))
  refine set_ SW (by decide) r8 od8 Db (fun _ _ e => T₅.kp _ _ (kb1 _ _ e)) nl (Ts := []) (n := 0) (T₅.kp _ _ el) (by simp) (R.le (by omega)) (fun h₆ tm Ts' n' x₆ nT pr eL => ?_)
  refine xcj3 (T₅.anew x₆ (fun a ha => by rw [List.mem_singleton.mp ha]; exact ⟨_, el⟩)) fun g₂ T₆ x' nw => ?_
  have eL2 : g₂.get? lg = some (listO (Ts'.map .ref) n') := by
    have := nw _ _ (.inr (by simp)) eL
    rwa [List.nil_append] at this
  have pr2 : Paired (EntAt g₂) Ts' [e1, e2, e3] := Paired.impM (fun a ha e z => by
    obtain ⟨a1, a2, a3, a4, z⟩ := z
    exact ⟨a1, a2, a3, a4, nw _ _ (.inl (nT a ha)) z⟩) pr
  have kb2 : Kp b g₂ := kpx kb1 x' (by simpa using nl)
  have D₂ := Db.kp kb2
  refine stL T₆ fun h₇ T₇ => ?_
  refine s_cons (s_if (t_or (t_cmp (c_fn (nmB D₂ T₇ g_len boot_len' (w_bi (a_cons (nmL T₇ rfl (a_nil (c_len (by rw [ms_len]; omega) fun tf => e_int fun tg => o_nei (t_bool ?_)))))))))))
  rw [ms_len, ml, show (!(((20 : Nat) : Int) == 20)) = false from rfl]
  refine t_or (t_cmp (e_list (a_cons (e_sub (nmL T₇ rfl (e_int fun th => sub_str (k := 0) (c := 61) (by decide) (by rw [ms_at, m0]; rfl) (fun ti => ?_)))))))
  refine a_cons (e_sub (nmL T₇ rfl (e_int fun th => sub_str (k := 4) (c := 61) (by decide) (by rw [ms_at, m4]; rfl) (fun tj => ?_))))
  refine a_cons (e_sub (nmL T₇ rfl (e_int fun th => sub_str (k := 10) (c := 61) (by decide) (by rw [ms_at, m10]; rfl) (fun tk => ?_))))
  refine a_nil (n_list fun l1 h₈ k₈ n₈ e₈ => e_bin (e_list (a_cons (e_str fun tl => a_nil (n_list fun l2 h₉ k₉ n₉ e₉ => e_int fun tn => ?_)))))
  refine o_mull e₉ (by decide) (by decide) (by show 1 ≤ 100; decide) (fun l3 h₁₀ k₁₀ n₁₀ e₁₀ => ?_)
  have T₁₀ := ((T₇.ext k₈).ext k₉).ext k₁₀
  have ra : Reads h₁₀ (.ref l1) (.list [.str ⟨#[61]⟩, .str ⟨#[61]⟩, .str ⟨#[61]⟩]) _ := reads_list_at (k₁₀ _ _ (k₉ _ _ e₈)) rfl rfl (.cons (Reads.str _ _) (.cons (Reads.str _ _) (.cons (Reads.str _ _) .nil)))
  have rb : Reads h₁₀ (.ref l3) (.list [.str ⟨#[61]⟩, .str ⟨#[61]⟩, .str ⟨#[61]⟩]) _ := reads_list_at e₁₀ rfl rfl (.cons (Reads.str _ _) (.cons (Reads.str _ _) (.cons (Reads.str _ _) .nil)))
  have hu : A.units + 64 < cLine := by have := R.units; omega
  refine o_ned ra rb (by decide +kernel) hu (t_bool (t_or0 (s_nil ?_)))
  refine s_cons (s_if (t_cmp (c_fn (nmK D₂ T₁₀ g_run (w_fn D₂ (fun P => by kernel_rfl) (a_cons (e_str fun tp => a_cons (nmL T₁₀ rfl (a_nil ⟨T₁₀.kp, ?_⟩)))))))))
  refine run_ 2 (by decide) (D₂.kp T₁₀.kp) (row := List.range 8) (marks := marks) r8 (by decide) (by rw [ml]; decide) (R.le (by omega)) (fun h₁₁ tr k₁₁ => ?_)
  rw [run]
  refine nmL (T₁₀.ext k₁₁) mo (o_nes (t_bool ?_))
  rw [eq_tx, beq_self_eq_true]
  refine s_nil ?_
  have T₁₁ := T₁₀.ext k₁₁
  have rk : ∀ e rs, (e, rs) ∈ [(e1, r1), (e2, r2), (e3, r3)] → RingOk e rs := by
    intro e rs h
    simp only [List.mem_cons, List.not_mem_nil, or_false, Prod.mk.injEq] at h
    rcases h with ⟨rfl, rfl⟩ | ⟨rfl, rfl⟩ | ⟨rfl, rfl⟩
    · exact k1
    · exact k2
    · exact k3
  obtain ⟨m₁, T₁₁, mlog⟩ : ∃ m, At g₂ L [] h₁₁ m ∧ m "log" = some (.ref lg) := ⟨_, T₁₁, rfl⟩
  have tl : Ts'.length = 3 := Paired.length pr2
  refine s_cons (s_asgComp (L := L) (P := []) (m := m₁) R.handled (nmL T₁₁ mlog ?_) rfl (by decide) rfl (by decide))
  refine ⟨_, _, _, _, fun i ys g' => Kp g₂ g' ∧ ∃ As : List Addr, ys = As.map Value.ref ∧ Paired (RsAt g') As ([r1, r2, r3].take i), by simp; omega, Src.list w lg (Ts'.map .ref), g₂, T₁₁,
    ⟨⟨fun _ _ e => e, [], rfl, .nil⟩, fun _ _ g' z => ⟨n', z.1 _ _ eL2⟩, fun i ys g₁ g₂ ⟨k, As, e, p⟩ k' => ⟨fun _ _ e => k' _ _ (k _ _ e), As, e, Paired.imp (fun _ _ z => z.kp k') p⟩, ?_⟩, ?_⟩
  · rintro i v C I o D' nD oL ys g₃ h₁₂ mc lt hys hv T₁₂ ⟨kg3, As, rfl, pA⟩
    simp only [List.getElem?_map, Option.map_eq_some_iff] at hv
    obtain ⟨Ti, hTi, rfl⟩ := hv
    obtain ⟨e, he, a1, a2, a3, a4, eT⟩ := Paired.at pr2 hTi
    obtain ⟨rs, hrs, kr⟩ : ∃ rs, [r1, r2, r3][i]? = some rs ∧ RingOk e rs := by
      match i, he with
      | 0, he => cases he; exact ⟨_, rfl, k1⟩
      | 1, he => cases he; exact ⟨_, rfl, k2⟩
      | 2, he => cases he; exact ⟨_, rfl, k3⟩
    obtain ⟨q1, q2, q3, q4, q5, q6, q7, q8, q9, q10, q11, q12⟩ := kr
    have D3 := D₂.kp kg3
    refine a_tup R.handled (T₁₂.kp _ _ (kg3 _ _ eT)) (fun h₁₃ k₁₃ => ?_) rfl rfl
    refine io_cons (a_name (gS (T₁₂.ext k₁₃) fun h₁₄ T₁₄ => io_cons (a_name (gS T₁₄ fun h₁₅ T₁₅ => io_cons (a_name (gS T₁₅ fun h₁₆ T₁₆ => io_cons (a_name (gS T₁₆ fun h₁₇ T₁₇ => io_nil (ts_nil ?_)))))))))
    refine c_fn (gK D3 T₁₇ g_rings (w_fn D3 (fun P => by kernel_rfl) (a_cons (gL T₁₇ rfl (a_cons (gL T₁₇ rfl (a_nil ⟨T₁₇.kp, ?_⟩)))))))
    refine rings_ (D3.kp T₁₇.kp) q7 q8 q9 q10 q1 q4 q5 (by omega) (R.le (by omega) : Room A ((k + 17) + 3)) (fun h₁₈ ll nn zs k₁₈ eZ hZ nZ => ?_)
    refine xcj3 (T₁₇.anew0 k₁₈) fun g₄ T₁₈ kg4 ng4 => ?_
    refine ⟨g₄, _, T₁₈, fun _ _ e => kg4 _ _ (kg3 _ _ e), As ++ [ll], by simp, ?_⟩
    rw [List.take_add_one, hrs]
    exact Paired.snoc (Paired.imp (fun _ _ z => z.kp kg4) pA) ⟨nn, zs, ng4 _ _ nZ eZ, hZ⟩
  · rintro ra nR ys g₃ h₁₂ T₁₂ ⟨kg3, As, rfl, pA⟩ eR
    rw [List.length_map, tl] at pA
    have pA : Paired (RsAt g₃) As [r1, r2, r3] := pA
    have D₃ := D₂.kp kg3
    have eL3 := kg3 _ _ eL2
    have mlog' : (fun z => if z = "rings" then some (.ref ra) else m₁ z) "log" = some (Value.ref lg) := mlog
    have al : As.length = 3 := Paired.length pA
    have inj : ∀ (i : Nat) (e : Pl.Entry), [e1, e2, e3][i]? = some e → ∃ rs, [r1, r2, r3][i]? = some rs ∧ RingOk e rs := by
      intro i e he
      match i, he with
      | 0, he => cases he; exact ⟨_, rfl, k1⟩
      | 1, he => cases he; exact ⟨_, rfl, k2⟩
      | 2, he => cases he; exact ⟨_, rfl, k3⟩
    have inj2 : ∀ (i : Nat) (rs : List (List Nat)), [r1, r2, r3][i]? = some rs → ∃ e, [e1, e2, e3][i]? = some e ∧ RingOk e rs := by
      intro i rs he
      match i, he with
      | 0, he => cases he; exact ⟨_, rfl, k1⟩
      | 1, he => cases he; exact ⟨_, rfl, k2⟩
      | 2, he => cases he; exact ⟨_, rfl, k3⟩
    refine s_cons (s_ret (e_cmp ?_))
    refine e_comp (L := L) (P := []) (m := fun z => if z = "rings" then some (.ref ra) else m₁ z) (Src.list w lg (Ts'.map .ref)) (by simp; omega) R.handled (fun i ys g' => Kp g₃ g' ∧ ∃ Cs : List Addr, ys = Cs.map Value.ref ∧ Paired (PrAt g') Cs (([e1, e2, e3].take i).map (·.2))) (nmL T₁₂ mlog' ⟨rfl, g₃, T₁₂, ?_⟩) rfl (by decide) rfl (by decide)
    refine ⟨⟨fun _ _ e => e, [], rfl, .nil⟩, fun _ _ g' z => ⟨n', z.1 _ _ eL3⟩, fun i ys g₁ g₂ ⟨k, Cs, e, p⟩ k' => ⟨fun _ _ e => k' _ _ (k _ _ e), Cs, e, Paired.imp (fun _ _ z => z.kp k') p⟩, ?_, ?_⟩
    · rintro i v C I o D' nD oL ys g₄ h₁₃ mc lt hys hv T₁₃ ⟨kg4, Cs, rfl, pC⟩
      simp only [List.getElem?_map, Option.map_eq_some_iff] at hv
      obtain ⟨Ti, hTi, rfl⟩ := hv
      obtain ⟨e, he, a1, a2, a3, a4, eT⟩ := Paired.at pr2 hTi
      refine a_tup R.handled (T₁₃.kp _ _ (kg4 _ _ (kg3 _ _ eT))) (fun h₁₄ k₁₄ => ?_) rfl rfl
      refine io_cons (a_name (gS (T₁₃.ext k₁₄) fun h₁₅ T₁₅ => io_cons (a_name (gS T₁₅ fun h₁₆ T₁₆ => io_cons (a_name (gS T₁₆ fun h₁₇ T₁₇ => io_cons (a_name (gS T₁₇ fun h₁₈ T₁₈ => io_nil (ts_nil ?_)))))))))
      refine e_tup (a_cons (gL T₁₈ rfl (a_cons (gL T₁₈ rfl (a_nil (n_tup fun Tn h₁₉ k₁₉ nTn eTn => ?_))))))
      refine xcj3 (T₁₈.anew0 k₁₉) fun g₅ T₁₉ kg5 ng5 => ?_
      refine ⟨g₅, _, T₁₉, fun _ _ e => kg5 _ _ (kg4 _ _ e), Cs ++ [Tn], by simp, ?_⟩
      rw [List.take_add_one, he, List.map_append]
      exact Paired.snoc (Paired.imp (fun _ _ z => z.kp kg5) pC) ⟨a3, a4, ng5 _ _ nTn eTn⟩
    rintro D1 n1 ys1 g₄ h₁₃ T₁₃ ⟨kg4, Cs, rfl, pC⟩ eD1
    rw [List.length_map, tl] at pC
    have eR4 := kg4 _ _ eR
    have D₄ := D₃.kp kg4
    refine e_comp (L := L) (P := []) (m := fun z => if z = "rings" then some (.ref ra) else m₁ z) (Src.list w ra (As.map .ref)) (by simp; omega) R.handled (fun i ys g' => Kp g₄ g' ∧ ∃ Ds : List Addr, ys = Ds.map Value.ref ∧ Paired (PrAt g') Ds (([e1, e2, e3].take i).map (·.2))) (nmL T₁₃ rfl ⟨rfl, g₄, T₁₃, ?_⟩) rfl (by decide) rfl (by decide)
    refine ⟨⟨fun _ _ e => e, [], rfl, .nil⟩, fun _ _ g' z => ⟨nR, z.1 _ _ eR4⟩, fun i ys g₁ g₂ ⟨k, Cs, e, p⟩ k' => ⟨fun _ _ e => k' _ _ (k _ _ e), Cs, e, Paired.imp (fun _ _ z => z.kp k') p⟩, ?_, ?_⟩
    · rintro i v C I o D' nD oL ys g₅ h₁₄ mc lt hys hv T₁₄ ⟨kg5, Ds, rfl, pD⟩
      simp only [List.getElem?_map, Option.map_eq_some_iff] at hv
      obtain ⟨Ai, hAi, rfl⟩ := hv
      obtain ⟨rs, hrs, nz, zs, eZ, hZ⟩ := Paired.at pA hAi
      obtain ⟨e, he, q1, q2, q3, q4, q5, q6, q7, q8, q9, q10, q11, q12⟩ := inj2 i rs hrs
      have eZ5 := kg5 _ _ (kg4 _ _ eZ)
      have D5 := D₄.kp kg5
      have hfl : zs.flatMap (·.1) = rs.flatten.map (97 + ·) := by rw [List.flatMap_def, hZ, List.map_flatten]
      have zl : zs.length = rs.length := by have := congrArg List.length hZ; simpa using this
      refine a_name (gS T₁₄ fun h₁₅ T₁₅ => ts_nil ?_)
      refine e_tup (a_cons (c_me fun pq => e_str fun ta => g_join (w_bi (a_cons (gL T₁₅ rfl (a_nil (c_join0 (T₁₅.kp _ _ eZ5) (by rw [hfl, List.length_map]; omega) fun tb => ?_)))))))
      refine a_cons (e_bin (e_bin (e_int fun tc => c_fn (gB D5 T₁₅ g_len boot_len' (w_bi (a_cons (c_me fun pq => e_str fun td => g_join (w_bi (a_cons (gL T₁₅ rfl (a_nil (c_join0 (T₁₅.kp _ _ eZ5) (by rw [hfl, List.length_map]; omega) fun te => ?_))))))))))))
      rw [hfl]
      refine a_nil (c_len (by show (tx rs.flatten).length ≤ 1000; rw [tx_len]; omega) fun tf => o_muli (by decide +kernel) fun tg => ?_)
      refine c_fn (gB D5 T₁₅ g_len boot_len' (w_bi (a_cons (gL T₁₅ rfl (a_nil (c_lenl ⟨_, T₁₅.kp _ _ eZ5, rfl, nz, rfl⟩ (by simp [sv]; omega) fun th => o_addi fun ti => ?_))))))
      refine a_nil (n_tup fun Tn h₁₉ k₁₉ nTn eTn => ?_)
      refine xcj3 (T₁₅.anew0 k₁₉) fun g₆ T₁₉ kg6 ng6 => ?_
      refine ⟨g₆, _, T₁₉, fun _ _ e => kg6 _ _ (kg5 _ _ e), Ds ++ [Tn], by simp, ?_⟩
      rw [List.take_add_one, he, List.map_append]
      refine Paired.snoc (Paired.imp (fun _ _ z => z.kp kg6) pD) ⟨tb, ti, ?_⟩
      rw [ng6 _ _ nTn eTn, q2, q3]
      have hint : (2 * ((mk (rs.flatten.map (97 + ·))).length : Int) + (((sv zs).toArray.size : Nat) : Int)) = ((2 * rs.flatten.length + rs.length : Nat) : Int) := by
        have h1 : (mk (rs.flatten.map (97 + ·))).length = rs.flatten.length := tx_len rs.flatten
        have h2 : (sv zs).toArray.size = rs.length := by simp [sv, zl]
        rw [h1, h2]; omega
      rw [hint]; rfl
    · rintro D2 n2 ys2 g₅ h₁₄ T₁₄ ⟨kg5, Ds, rfl, pD⟩ eD2
      rw [List.length_map, al] at pD
      have kh : Kp g₅ h₁₄ := T₁₄.kp
      obtain ⟨as1, x1⟩ := reads_pr (Paired.imp (fun _ _ z => (PrAt.kp z kg5).kp kh) pC)
      obtain ⟨as2, x2⟩ := reads_pr (Paired.imp (fun _ _ z => PrAt.kp z kh) pD)
      have y1 := reads_list_at (kh _ _ (kg5 _ _ eD1)) rfl rfl (by simpa using x1)
      have y2 := reads_list_at (kh _ _ eD2) rfl rfl (by simpa using x2)
      refine o_eqd y1 y2 ?_ hu (q _ fun _ _ e => kh _ _ (kg5 _ _ (kg4 _ _ (kg3 _ _ (kb2 _ _ e)))))
      have sh : ∀ {e : Pl.Entry} {rs : List (List Nat)}, RingOk e rs → PyData.strOk (tx e.2.1) = true := fun k => strOk_tx _ k.2.2.2.2.2.2.2.2.2.2.2
      simp [SeqAt.shaped, PyData.canLay0, PyData.canLayAll0, PyData.depth, PyData.depthAll, sh k1, sh k2, sh k3]
end
end Mine
end
noncomputable section
open PySem PySem.W PySem.Spec PySem.Calls PyProof.Rows
set_option maxRecDepth 100000
set_option autoImplicit false
namespace Mine
open Pl
theorem g_law (P : Params) : nsIn (K0 P) mainGlobals "law" = some (some (.ref 370)) := by kernel_rfl
theorem room_caller : Room callerA 21 := ⟨by rw [depth_caller]; decide, by rw [units_caller]; decide, rfl⟩
theorem model_eq (w : World) : model rowV.toRowW.prog w = Md w := congrArg (fun p => model p w) pw_eq
theorem law_ {w : World} {r : Rst} {A : Around} {h : Heap} {Q : Value → Heap → Prop} (D : Wd w h) {ax : Addr} {xs : Array Value} {ns : List Int} (hl : h.IsList ax xs) (hi : IntsAre xs.toList ns) (hn : xs.size ≤ 63) (R : Room A 21)
    (q : ∀ h', Kp h h' → Q (.bool true) h') : Wp w r A (call (.ref 370) [.ref ax]) Q h :=
  law_a D hl hi hn R fun _ _ _ _ _ _ _ _ _ _ _ _ T kg mn en mo pm R' => law_b D T kg mn en mo pm R' fun h' k => q h' k
theorem walk_end {w : World} {s₀ s₁ : Shared} {l : Addr} {vs : List Value} {ns : List Int} (D : Wd w s₁.heap) (hgens : s₁.gens = #[]) (hl : s₁.heap.IsList l vs.toArray) (hi : IntsAre vs ns) (hn : ¬ ((63 : Nat) : Int) < (ns.length : Int)) :
    wpAny (Md w) callerA (call (.ref 370) [.ref l])
      (fun v s' => GoodWG rowV.toRowW.claim (classAt s₀.heap) (ExcName.means s₀.heap) [ofPy (PyData.list (List.map PyData.int ns))] s₁ (.ok (.ret v)) s')
      (fun e s' => GoodWG rowV.toRowW.claim (classAt s₀.heap) (ExcName.means s₀.heap) [ofPy (PyData.list (List.map PyData.int ns))] s₁ (.error e) s') s₁ := by
  obtain ⟨hp, gs, dr, tk, os⟩ := s₁
  have hs : vs.toArray.size ≤ 63 := by
    have := hi.length
    rw [List.size_toArray]; omega
  refine Wp.into (r := ⟨gs, dr, os⟩) (law_ (Q := fun v h' => v = .bool true ∧ Kp hp h') D hl hi hs room_caller fun h' k => ⟨rfl, k⟩) ?_
  rintro v h' tk' ⟨rfl, k⟩
  refine GoodW.toG ⟨.inl ⟨.bool true, .bool true, [], rfl, fun _ => rfl, ReadsW.bool _, ?_, fun _ => ⟨List.nodup_nil, fun _ q => nomatch q⟩⟩, k, rfl, hgens⟩
  first | rfl | decide +kernel | wrow_post
theorem walk_ : WalkO QV LV (XL QV []) YPV rowV.toRowW dLaw [] fun f vs => PySem.call f vs := by
  intro w s₀ s₁ mg mb G Y a o pm cd doc dV kV ho hd hcd hD hmg hgens args vals as hpre hlay hrd hwl hlo
  have D : Wd w s₁.heap := ⟨Y, G.T.nolimit, ⟨mg, G.T.g⟩, ⟨mb, G.T.b, G.T.builtins⟩⟩
  have ha : mg "law" = some (.ref 370) := mg_of D.X G.T.g (g_law _)
  have hmg' : mg "law" = some (.ref a) := hmg
  rw [ha] at hmg'
  injection hmg' with e; injection e with e; subst e
  rw [model_eq]
  clear G Y ho hd hcd hD hmg ha
  wrow_args hpre hlay hrd hwl hlo
  exact walk_end D hgens (by assumption) (by assumption) (by assumption)
end Mine
end
set_option maxRecDepth 100000 in
set_option maxHeartbeats 8000000 in
theorem PySem.Challenge.cw_wk0051_01_holds : PySem.Challenge.rw_wk0051_01.Holds := by
  exact PySem.W.holds_law Mine.law_said fun said => Mine.head_ said Mine.walk_ Mine.hw_
