import PyProof.Rows.All
import OpenK.KLine
import KE.KDictAny
import KE.KDictSum
import KE.KEqSeq
import KE.KSortedM
import KE.KSuperObj
import OpenK.AllK
import Lean
import PySem.Challenge.RW_ah0049_01
set_option Elab.async false
set_option maxRecDepth 100000
set_option linter.unusedVariables false
set_option maxHeartbeats 0
namespace Mine.Hd
open PySem PySem.W

noncomputable abbrev pw : Program := PySem.Challenge.pw_ah0049_01
theorem a0 : Str.ofString ".0" = Str.mk (Array.mk [nat_lit 46, nat_lit 48]) := rfl
theorem a1 : Str.ofString "/claim/cut.py" = Str.mk (Array.mk [nat_lit 47, nat_lit 99, nat_lit 108, nat_lit 97, nat_lit 105, nat_lit 109, nat_lit 47, nat_lit 99, nat_lit 117, nat_lit 116, nat_lit 46, nat_lit 112, nat_lit 121]) := rfl
theorem a2 : Str.ofString "<NullMatcher>" = Str.mk (Array.mk [nat_lit 60, nat_lit 78, nat_lit 117, nat_lit 108, nat_lit 108, nat_lit 77, nat_lit 97, nat_lit 116, nat_lit 99, nat_lit 104, nat_lit 101, nat_lit 114, nat_lit 62]) := rfl
theorem a3 : Str.ofString "AdditiveBiMatcher" = Str.mk (Array.mk [nat_lit 65, nat_lit 100, nat_lit 100, nat_lit 105, nat_lit 116, nat_lit 105, nat_lit 118, nat_lit 101, nat_lit 66, nat_lit 105, nat_lit 77, nat_lit 97, nat_lit 116, nat_lit 99, nat_lit 104, nat_lit 101, nat_lit 114]) := rfl
theorem a4 : Str.ofString "AndMaybeMatcher" = Str.mk (Array.mk [nat_lit 65, nat_lit 110, nat_lit 100, nat_lit 77, nat_lit 97, nat_lit 121, nat_lit 98, nat_lit 101, nat_lit 77, nat_lit 97, nat_lit 116, nat_lit 99, nat_lit 104, nat_lit 101, nat_lit 114]) := rfl
theorem a5 : Str.ofString "AndNotMatcher" = Str.mk (Array.mk [nat_lit 65, nat_lit 110, nat_lit 100, nat_lit 78, nat_lit 111, nat_lit 116, nat_lit 77, nat_lit 97, nat_lit 116, nat_lit 99, nat_lit 104, nat_lit 101, nat_lit 114]) := rfl
theorem a6 : Str.ofString "BaseScorer" = Str.mk (Array.mk [nat_lit 66, nat_lit 97, nat_lit 115, nat_lit 101, nat_lit 83, nat_lit 99, nat_lit 111, nat_lit 114, nat_lit 101, nat_lit 114]) := rfl
theorem a7 : Str.ofString "BiMatcher" = Str.mk (Array.mk [nat_lit 66, nat_lit 105, nat_lit 77, nat_lit 97, nat_lit 116, nat_lit 99, nat_lit 104, nat_lit 101, nat_lit 114]) := rfl
theorem a8 : Str.ofString "Exception" = Str.mk (Array.mk [nat_lit 69, nat_lit 120, nat_lit 99, nat_lit 101, nat_lit 112, nat_lit 116, nat_lit 105, nat_lit 111, nat_lit 110]) := rfl
theorem a9 : Str.ofString "IntersectionMatcher" = Str.mk (Array.mk [nat_lit 73, nat_lit 110, nat_lit 116, nat_lit 101, nat_lit 114, nat_lit 115, nat_lit 101, nat_lit 99, nat_lit 116, nat_lit 105, nat_lit 111, nat_lit 110, nat_lit 77, nat_lit 97, nat_lit 116, nat_lit 99, nat_lit 104, nat_lit 101, nat_lit 114]) := rfl
theorem a10 : Str.ofString "ListMatcher" = Str.mk (Array.mk [nat_lit 76, nat_lit 105, nat_lit 115, nat_lit 116, nat_lit 77, nat_lit 97, nat_lit 116, nat_lit 99, nat_lit 104, nat_lit 101, nat_lit 114]) := rfl
theorem a11 : Str.ofString "Matcher" = Str.mk (Array.mk [nat_lit 77, nat_lit 97, nat_lit 116, nat_lit 99, nat_lit 104, nat_lit 101, nat_lit 114]) := rfl
theorem a12 : Str.ofString "MultiMatcher" = Str.mk (Array.mk [nat_lit 77, nat_lit 117, nat_lit 108, nat_lit 116, nat_lit 105, nat_lit 77, nat_lit 97, nat_lit 116, nat_lit 99, nat_lit 104, nat_lit 101, nat_lit 114]) := rfl
theorem a13 : Str.ofString "NoQualityAvailable" = Str.mk (Array.mk [nat_lit 78, nat_lit 111, nat_lit 81, nat_lit 117, nat_lit 97, nat_lit 108, nat_lit 105, nat_lit 116, nat_lit 121, nat_lit 65, nat_lit 118, nat_lit 97, nat_lit 105, nat_lit 108, nat_lit 97, nat_lit 98, nat_lit 108, nat_lit 101]) := rfl
theorem a14 : Str.ofString "NotImplementedError" = Str.mk (Array.mk [nat_lit 78, nat_lit 111, nat_lit 116, nat_lit 73, nat_lit 109, nat_lit 112, nat_lit 108, nat_lit 101, nat_lit 109, nat_lit 101, nat_lit 110, nat_lit 116, nat_lit 101, nat_lit 100, nat_lit 69, nat_lit 114, nat_lit 114, nat_lit 111, nat_lit 114]) := rfl
theorem a15 : Str.ofString "NullMatcher" = Str.mk (Array.mk [nat_lit 78, nat_lit 117, nat_lit 108, nat_lit 108, nat_lit 77, nat_lit 97, nat_lit 116, nat_lit 99, nat_lit 104, nat_lit 101, nat_lit 114]) := rfl
theorem a16 : Str.ofString "NullMatcherClass" = Str.mk (Array.mk [nat_lit 78, nat_lit 117, nat_lit 108, nat_lit 108, nat_lit 77, nat_lit 97, nat_lit 116, nat_lit 99, nat_lit 104, nat_lit 101, nat_lit 114, nat_lit 67, nat_lit 108, nat_lit 97, nat_lit 115, nat_lit 115]) := rfl
theorem a17 : Str.ofString "ReadTooFar" = Str.mk (Array.mk [nat_lit 82, nat_lit 101, nat_lit 97, nat_lit 100, nat_lit 84, nat_lit 111, nat_lit 111, nat_lit 70, nat_lit 97, nat_lit 114]) := rfl
theorem a18 : Str.ofString "UnionMatcher" = Str.mk (Array.mk [nat_lit 85, nat_lit 110, nat_lit 105, nat_lit 111, nat_lit 110, nat_lit 77, nat_lit 97, nat_lit 116, nat_lit 99, nat_lit 104, nat_lit 101, nat_lit 114]) := rfl
theorem a19 : Str.ofString "WeightScorer" = Str.mk (Array.mk [nat_lit 87, nat_lit 101, nat_lit 105, nat_lit 103, nat_lit 104, nat_lit 116, nat_lit 83, nat_lit 99, nat_lit 111, nat_lit 114, nat_lit 101, nat_lit 114]) := rfl
theorem a20 : Str.ofString "__call__" = Str.mk (Array.mk [nat_lit 95, nat_lit 95, nat_lit 99, nat_lit 97, nat_lit 108, nat_lit 108, nat_lit 95, nat_lit 95]) := rfl
theorem a21 : Str.ofString "__class__" = Str.mk (Array.mk [nat_lit 95, nat_lit 95, nat_lit 99, nat_lit 108, nat_lit 97, nat_lit 115, nat_lit 115, nat_lit 95, nat_lit 95]) := rfl
theorem a22 : Str.ofString "__init__" = Str.mk (Array.mk [nat_lit 95, nat_lit 95, nat_lit 105, nat_lit 110, nat_lit 105, nat_lit 116, nat_lit 95, nat_lit 95]) := rfl
theorem a23 : Str.ofString "__name__" = Str.mk (Array.mk [nat_lit 95, nat_lit 95, nat_lit 110, nat_lit 97, nat_lit 109, nat_lit 101, nat_lit 95, nat_lit 95]) := rfl
theorem a24 : Str.ofString "__repr__" = Str.mk (Array.mk [nat_lit 95, nat_lit 95, nat_lit 114, nat_lit 101, nat_lit 112, nat_lit 114, nat_lit 95, nat_lit 95]) := rfl
theorem a25 : Str.ofString "_all_weights" = Str.mk (Array.mk [nat_lit 95, nat_lit 97, nat_lit 108, nat_lit 108, nat_lit 95, nat_lit 119, nat_lit 101, nat_lit 105, nat_lit 103, nat_lit 104, nat_lit 116, nat_lit 115]) := rfl
theorem a26 : Str.ofString "_find_first" = Str.mk (Array.mk [nat_lit 95, nat_lit 102, nat_lit 105, nat_lit 110, nat_lit 100, nat_lit 95, nat_lit 102, nat_lit 105, nat_lit 114, nat_lit 115, nat_lit 116]) := rfl
theorem a27 : Str.ofString "_find_next" = Str.mk (Array.mk [nat_lit 95, nat_lit 102, nat_lit 105, nat_lit 110, nat_lit 100, nat_lit 95, nat_lit 110, nat_lit 101, nat_lit 120, nat_lit 116]) := rfl
theorem a28 : Str.ofString "_first_b" = Str.mk (Array.mk [nat_lit 95, nat_lit 102, nat_lit 105, nat_lit 114, nat_lit 115, nat_lit 116, nat_lit 95, nat_lit 98]) := rfl
theorem a29 : Str.ofString "_format" = Str.mk (Array.mk [nat_lit 95, nat_lit 102, nat_lit 111, nat_lit 114, nat_lit 109, nat_lit 97, nat_lit 116]) := rfl
theorem a30 : Str.ofString "_i" = Str.mk (Array.mk [nat_lit 95, nat_lit 105]) := rfl
theorem a31 : Str.ofString "_id" = Str.mk (Array.mk [nat_lit 95, nat_lit 105, nat_lit 100]) := rfl
theorem a32 : Str.ofString "_ids" = Str.mk (Array.mk [nat_lit 95, nat_lit 105, nat_lit 100, nat_lit 115]) := rfl
theorem a33 : Str.ofString "_law_fits" = Str.mk (Array.mk [nat_lit 95, nat_lit 108, nat_lit 97, nat_lit 119, nat_lit 95, nat_lit 102, nat_lit 105, nat_lit 116, nat_lit 115]) := rfl
theorem a34 : Str.ofString "_law_here" = Str.mk (Array.mk [nat_lit 95, nat_lit 108, nat_lit 97, nat_lit 119, nat_lit 95, nat_lit 104, nat_lit 101, nat_lit 114, nat_lit 101]) := rfl
theorem a35 : Str.ofString "_law_list" = Str.mk (Array.mk [nat_lit 95, nat_lit 108, nat_lit 97, nat_lit 119, nat_lit 95, nat_lit 108, nat_lit 105, nat_lit 115, nat_lit 116]) := rfl
theorem a36 : Str.ofString "_law_part" = Str.mk (Array.mk [nat_lit 95, nat_lit 108, nat_lit 97, nat_lit 119, nat_lit 95, nat_lit 112, nat_lit 97, nat_lit 114, nat_lit 116]) := rfl
theorem a37 : Str.ofString "_law_sum" = Str.mk (Array.mk [nat_lit 95, nat_lit 108, nat_lit 97, nat_lit 119, nat_lit 95, nat_lit 115, nat_lit 117, nat_lit 109]) := rfl
theorem a38 : Str.ofString "_law_text" = Str.mk (Array.mk [nat_lit 95, nat_lit 108, nat_lit 97, nat_lit 119, nat_lit 95, nat_lit 116, nat_lit 101, nat_lit 120, nat_lit 116]) := rfl
theorem a39 : Str.ofString "_law_tree" = Str.mk (Array.mk [nat_lit 95, nat_lit 108, nat_lit 97, nat_lit 119, nat_lit 95, nat_lit 116, nat_lit 114, nat_lit 101, nat_lit 101]) := rfl
theorem a40 : Str.ofString "_law_ways" = Str.mk (Array.mk [nat_lit 95, nat_lit 108, nat_lit 97, nat_lit 119, nat_lit 95, nat_lit 119, nat_lit 97, nat_lit 121, nat_lit 115]) := rfl
theorem a41 : Str.ofString "_law_weight" = Str.mk (Array.mk [nat_lit 95, nat_lit 108, nat_lit 97, nat_lit 119, nat_lit 95, nat_lit 119, nat_lit 101, nat_lit 105, nat_lit 103, nat_lit 104, nat_lit 116]) := rfl
theorem a42 : Str.ofString "_maxweight" = Str.mk (Array.mk [nat_lit 95, nat_lit 109, nat_lit 97, nat_lit 120, nat_lit 119, nat_lit 101, nat_lit 105, nat_lit 103, nat_lit 104, nat_lit 116]) := rfl
theorem a43 : Str.ofString "_next_matcher" = Str.mk (Array.mk [nat_lit 95, nat_lit 110, nat_lit 101, nat_lit 120, nat_lit 116, nat_lit 95, nat_lit 109, nat_lit 97, nat_lit 116, nat_lit 99, nat_lit 104, nat_lit 101, nat_lit 114]) := rfl
theorem a44 : Str.ofString "_scorer" = Str.mk (Array.mk [nat_lit 95, nat_lit 115, nat_lit 99, nat_lit 111, nat_lit 114, nat_lit 101, nat_lit 114]) := rfl
theorem a45 : Str.ofString "_term" = Str.mk (Array.mk [nat_lit 95, nat_lit 116, nat_lit 101, nat_lit 114, nat_lit 109]) := rfl
theorem a46 : Str.ofString "_terminfo" = Str.mk (Array.mk [nat_lit 95, nat_lit 116, nat_lit 101, nat_lit 114, nat_lit 109, nat_lit 105, nat_lit 110, nat_lit 102, nat_lit 111]) := rfl
theorem a47 : Str.ofString "_values" = Str.mk (Array.mk [nat_lit 95, nat_lit 118, nat_lit 97, nat_lit 108, nat_lit 117, nat_lit 101, nat_lit 115]) := rfl
theorem a48 : Str.ofString "_wall" = Str.mk (Array.mk [nat_lit 95, nat_lit 119, nat_lit 97, nat_lit 108, nat_lit 108]) := rfl
theorem a49 : Str.ofString "_weights" = Str.mk (Array.mk [nat_lit 95, nat_lit 119, nat_lit 101, nat_lit 105, nat_lit 103, nat_lit 104, nat_lit 116, nat_lit 115]) := rfl
theorem a50 : Str.ofString "a" = Str.mk (Array.mk [nat_lit 97]) := rfl
theorem a51 : Str.ofString "a_active" = Str.mk (Array.mk [nat_lit 97, nat_lit 95, nat_lit 97, nat_lit 99, nat_lit 116, nat_lit 105, nat_lit 118, nat_lit 101]) := rfl
theorem a52 : Str.ofString "a_id" = Str.mk (Array.mk [nat_lit 97, nat_lit 95, nat_lit 105, nat_lit 100]) := rfl
theorem a53 : Str.ofString "a_max" = Str.mk (Array.mk [nat_lit 97, nat_lit 95, nat_lit 109, nat_lit 97, nat_lit 120]) := rfl
theorem a54 : Str.ofString "a_min" = Str.mk (Array.mk [nat_lit 97, nat_lit 95, nat_lit 109, nat_lit 105, nat_lit 110]) := rfl
theorem a55 : Str.ofString "all_ids" = Str.mk (Array.mk [nat_lit 97, nat_lit 108, nat_lit 108, nat_lit 95, nat_lit 105, nat_lit 100, nat_lit 115]) := rfl
theorem a56 : Str.ofString "all_items" = Str.mk (Array.mk [nat_lit 97, nat_lit 108, nat_lit 108, nat_lit 95, nat_lit 105, nat_lit 116, nat_lit 101, nat_lit 109, nat_lit 115]) := rfl
theorem a57 : Str.ofString "all_weights" = Str.mk (Array.mk [nat_lit 97, nat_lit 108, nat_lit 108, nat_lit 95, nat_lit 119, nat_lit 101, nat_lit 105, nat_lit 103, nat_lit 104, nat_lit 116, nat_lit 115]) := rfl
theorem a58 : Str.ofString "append" = Str.mk (Array.mk [nat_lit 97, nat_lit 112, nat_lit 112, nat_lit 101, nat_lit 110, nat_lit 100]) := rfl
theorem a59 : Str.ofString "ar" = Str.mk (Array.mk [nat_lit 97, nat_lit 114]) := rfl
theorem a60 : Str.ofString "b" = Str.mk (Array.mk [nat_lit 98]) := rfl
theorem a61 : Str.ofString "b_active" = Str.mk (Array.mk [nat_lit 98, nat_lit 95, nat_lit 97, nat_lit 99, nat_lit 116, nat_lit 105, nat_lit 118, nat_lit 101]) := rfl
theorem a62 : Str.ofString "b_id" = Str.mk (Array.mk [nat_lit 98, nat_lit 95, nat_lit 105, nat_lit 100]) := rfl
theorem a63 : Str.ofString "b_max" = Str.mk (Array.mk [nat_lit 98, nat_lit 95, nat_lit 109, nat_lit 97, nat_lit 120]) := rfl
theorem a64 : Str.ofString "b_min" = Str.mk (Array.mk [nat_lit 98, nat_lit 95, nat_lit 109, nat_lit 105, nat_lit 110]) := rfl
theorem a65 : Str.ofString "block_max_length" = Str.mk (Array.mk [nat_lit 98, nat_lit 108, nat_lit 111, nat_lit 99, nat_lit 107, nat_lit 95, nat_lit 109, nat_lit 97, nat_lit 120, nat_lit 95, nat_lit 108, nat_lit 101, nat_lit 110, nat_lit 103, nat_lit 116, nat_lit 104]) := rfl
theorem a66 : Str.ofString "block_max_weight" = Str.mk (Array.mk [nat_lit 98, nat_lit 108, nat_lit 111, nat_lit 99, nat_lit 107, nat_lit 95, nat_lit 109, nat_lit 97, nat_lit 120, nat_lit 95, nat_lit 119, nat_lit 101, nat_lit 105, nat_lit 103, nat_lit 104, nat_lit 116]) := rfl
theorem a67 : Str.ofString "block_min_length" = Str.mk (Array.mk [nat_lit 98, nat_lit 108, nat_lit 111, nat_lit 99, nat_lit 107, nat_lit 95, nat_lit 109, nat_lit 105, nat_lit 110, nat_lit 95, nat_lit 108, nat_lit 101, nat_lit 110, nat_lit 103, nat_lit 116, nat_lit 104]) := rfl
theorem a68 : Str.ofString "block_quality" = Str.mk (Array.mk [nat_lit 98, nat_lit 108, nat_lit 111, nat_lit 99, nat_lit 107, nat_lit 95, nat_lit 113, nat_lit 117, nat_lit 97, nat_lit 108, nat_lit 105, nat_lit 116, nat_lit 121]) := rfl
theorem a69 : Str.ofString "bq" = Str.mk (Array.mk [nat_lit 98, nat_lit 113]) := rfl
theorem a70 : Str.ofString "br" = Str.mk (Array.mk [nat_lit 98, nat_lit 114]) := rfl
theorem a71 : Str.ofString "children" = Str.mk (Array.mk [nat_lit 99, nat_lit 104, nat_lit 105, nat_lit 108, nat_lit 100, nat_lit 114, nat_lit 101, nat_lit 110]) := rfl
theorem a72 : Str.ofString "copy" = Str.mk (Array.mk [nat_lit 99, nat_lit 111, nat_lit 112, nat_lit 121]) := rfl
theorem a73 : Str.ofString "current" = Str.mk (Array.mk [nat_lit 99, nat_lit 117, nat_lit 114, nat_lit 114, nat_lit 101, nat_lit 110, nat_lit 116]) := rfl
theorem a74 : Str.ofString "deeds" = Str.mk (Array.mk [nat_lit 100, nat_lit 101, nat_lit 101, nat_lit 100, nat_lit 115]) := rfl
theorem a75 : Str.ofString "depth" = Str.mk (Array.mk [nat_lit 100, nat_lit 101, nat_lit 112, nat_lit 116, nat_lit 104]) := rfl
theorem a76 : Str.ofString "fast" = Str.mk (Array.mk [nat_lit 102, nat_lit 97, nat_lit 115, nat_lit 116]) := rfl
theorem a77 : Str.ofString "format" = Str.mk (Array.mk [nat_lit 102, nat_lit 111, nat_lit 114, nat_lit 109, nat_lit 97, nat_lit 116]) := rfl
theorem a78 : Str.ofString "gap" = Str.mk (Array.mk [nat_lit 103, nat_lit 97, nat_lit 112]) := rfl
theorem a79 : Str.ofString "goal" = Str.mk (Array.mk [nat_lit 103, nat_lit 111, nat_lit 97, nat_lit 108]) := rfl
theorem a80 : Str.ofString "here" = Str.mk (Array.mk [nat_lit 104, nat_lit 101, nat_lit 114, nat_lit 101]) := rfl
theorem a81 : Str.ofString "id" = Str.mk (Array.mk [nat_lit 105, nat_lit 100]) := rfl
theorem a82 : Str.ofString "id_a" = Str.mk (Array.mk [nat_lit 105, nat_lit 100, nat_lit 95, nat_lit 97]) := rfl
theorem a83 : Str.ofString "id_b" = Str.mk (Array.mk [nat_lit 105, nat_lit 100, nat_lit 95, nat_lit 98]) := rfl
theorem a84 : Str.ofString "idoffsets" = Str.mk (Array.mk [nat_lit 105, nat_lit 100, nat_lit 111, nat_lit 102, nat_lit 102, nat_lit 115, nat_lit 101, nat_lit 116, nat_lit 115]) := rfl
theorem a85 : Str.ofString "ids" = Str.mk (Array.mk [nat_lit 105, nat_lit 100, nat_lit 115]) := rfl
theorem a86 : Str.ofString "is_active" = Str.mk (Array.mk [nat_lit 105, nat_lit 115, nat_lit 95, nat_lit 97, nat_lit 99, nat_lit 116, nat_lit 105, nat_lit 118, nat_lit 101]) := rfl
theorem a87 : Str.ofString "is_leaf" = Str.mk (Array.mk [nat_lit 105, nat_lit 115, nat_lit 95, nat_lit 108, nat_lit 101, nat_lit 97, nat_lit 102]) := rfl
theorem a88 : Str.ofString "k" = Str.mk (Array.mk [nat_lit 107]) := rfl
theorem a89 : Str.ofString "kind" = Str.mk (Array.mk [nat_lit 107, nat_lit 105, nat_lit 110, nat_lit 100]) := rfl
theorem a90 : Str.ofString "law" = Str.mk (Array.mk [nat_lit 108, nat_lit 97, nat_lit 119]) := rfl
theorem a91 : Str.ofString "law_ah0049_01" = Str.mk (Array.mk [nat_lit 108, nat_lit 97, nat_lit 119, nat_lit 95, nat_lit 97, nat_lit 104, nat_lit 48, nat_lit 48, nat_lit 52, nat_lit 57, nat_lit 95, nat_lit 48, nat_lit 49]) := rfl
theorem a92 : Str.ofString "len" = Str.mk (Array.mk [nat_lit 108, nat_lit 101, nat_lit 110]) := rfl
theorem a93 : Str.ofString "lists" = Str.mk (Array.mk [nat_lit 108, nat_lit 105, nat_lit 115, nat_lit 116, nat_lit 115]) := rfl
theorem a94 : Str.ofString "low" = Str.mk (Array.mk [nat_lit 108, nat_lit 111, nat_lit 119]) := rfl
theorem a95 : Str.ofString "m" = Str.mk (Array.mk [nat_lit 109]) := rfl
theorem a96 : Str.ofString "matcher" = Str.mk (Array.mk [nat_lit 109, nat_lit 97, nat_lit 116, nat_lit 99, nat_lit 104, nat_lit 101, nat_lit 114]) := rfl
theorem a97 : Str.ofString "matchers" = Str.mk (Array.mk [nat_lit 109, nat_lit 97, nat_lit 116, nat_lit 99, nat_lit 104, nat_lit 101, nat_lit 114, nat_lit 115]) := rfl
theorem a98 : Str.ofString "matching_terms" = Str.mk (Array.mk [nat_lit 109, nat_lit 97, nat_lit 116, nat_lit 99, nat_lit 104, nat_lit 105, nat_lit 110, nat_lit 103, nat_lit 95, nat_lit 116, nat_lit 101, nat_lit 114, nat_lit 109, nat_lit 115]) := rfl
theorem a99 : Str.ofString "max" = Str.mk (Array.mk [nat_lit 109, nat_lit 97, nat_lit 120]) := rfl
theorem a100 : Str.ofString "max_quality" = Str.mk (Array.mk [nat_lit 109, nat_lit 97, nat_lit 120, nat_lit 95, nat_lit 113, nat_lit 117, nat_lit 97, nat_lit 108, nat_lit 105, nat_lit 116, nat_lit 121]) := rfl
theorem a101 : Str.ofString "max_weight" = Str.mk (Array.mk [nat_lit 109, nat_lit 97, nat_lit 120, nat_lit 95, nat_lit 119, nat_lit 101, nat_lit 105, nat_lit 103, nat_lit 104, nat_lit 116]) := rfl
theorem a102 : Str.ofString "maxweight" = Str.mk (Array.mk [nat_lit 109, nat_lit 97, nat_lit 120, nat_lit 119, nat_lit 101, nat_lit 105, nat_lit 103, nat_lit 104, nat_lit 116]) := rfl
theorem a103 : Str.ofString "min" = Str.mk (Array.mk [nat_lit 109, nat_lit 105, nat_lit 110]) := rfl
theorem a104 : Str.ofString "minquality" = Str.mk (Array.mk [nat_lit 109, nat_lit 105, nat_lit 110, nat_lit 113, nat_lit 117, nat_lit 97, nat_lit 108, nat_lit 105, nat_lit 116, nat_lit 121]) := rfl
theorem a105 : Str.ofString "mr" = Str.mk (Array.mk [nat_lit 109, nat_lit 114]) := rfl
theorem a106 : Str.ofString "neg" = Str.mk (Array.mk [nat_lit 110, nat_lit 101, nat_lit 103]) := rfl
theorem a107 : Str.ofString "new_a" = Str.mk (Array.mk [nat_lit 110, nat_lit 101, nat_lit 119, nat_lit 95, nat_lit 97]) := rfl
theorem a108 : Str.ofString "new_b" = Str.mk (Array.mk [nat_lit 110, nat_lit 101, nat_lit 119, nat_lit 95, nat_lit 98]) := rfl
theorem a109 : Str.ofString "next" = Str.mk (Array.mk [nat_lit 110, nat_lit 101, nat_lit 120, nat_lit 116]) := rfl
theorem a110 : Str.ofString "nr" = Str.mk (Array.mk [nat_lit 110, nat_lit 114]) := rfl
theorem a111 : Str.ofString "number" = Str.mk (Array.mk [nat_lit 110, nat_lit 117, nat_lit 109, nat_lit 98, nat_lit 101, nat_lit 114]) := rfl
theorem a112 : Str.ofString "object" = Str.mk (Array.mk [nat_lit 111, nat_lit 98, nat_lit 106, nat_lit 101, nat_lit 99, nat_lit 116]) := rfl
theorem a113 : Str.ofString "offsets" = Str.mk (Array.mk [nat_lit 111, nat_lit 102, nat_lit 102, nat_lit 115, nat_lit 101, nat_lit 116, nat_lit 115]) := rfl
theorem a114 : Str.ofString "one" = Str.mk (Array.mk [nat_lit 111, nat_lit 110, nat_lit 101]) := rfl
theorem a115 : Str.ofString "part" = Str.mk (Array.mk [nat_lit 112, nat_lit 97, nat_lit 114, nat_lit 116]) := rfl
theorem a116 : Str.ofString "parts" = Str.mk (Array.mk [nat_lit 112, nat_lit 97, nat_lit 114, nat_lit 116, nat_lit 115]) := rfl
theorem a117 : Str.ofString "past" = Str.mk (Array.mk [nat_lit 112, nat_lit 97, nat_lit 115, nat_lit 116]) := rfl
theorem a118 : Str.ofString "pick" = Str.mk (Array.mk [nat_lit 112, nat_lit 105, nat_lit 99, nat_lit 107]) := rfl
theorem a119 : Str.ofString "place" = Str.mk (Array.mk [nat_lit 112, nat_lit 108, nat_lit 97, nat_lit 99, nat_lit 101]) := rfl
theorem a120 : Str.ofString "places" = Str.mk (Array.mk [nat_lit 112, nat_lit 108, nat_lit 97, nat_lit 99, nat_lit 101, nat_lit 115]) := rfl
theorem a121 : Str.ofString "plain" = Str.mk (Array.mk [nat_lit 112, nat_lit 108, nat_lit 97, nat_lit 105, nat_lit 110]) := rfl
theorem a122 : Str.ofString "pos" = Str.mk (Array.mk [nat_lit 112, nat_lit 111, nat_lit 115]) := rfl
theorem a123 : Str.ofString "pos_id" = Str.mk (Array.mk [nat_lit 112, nat_lit 111, nat_lit 115, nat_lit 95, nat_lit 105, nat_lit 100]) := rfl
theorem a124 : Str.ofString "position" = Str.mk (Array.mk [nat_lit 112, nat_lit 111, nat_lit 115, nat_lit 105, nat_lit 116, nat_lit 105, nat_lit 111, nat_lit 110]) := rfl
theorem a125 : Str.ofString "q" = Str.mk (Array.mk [nat_lit 113]) := rfl
theorem a126 : Str.ofString "r" = Str.mk (Array.mk [nat_lit 114]) := rfl
theorem a127 : Str.ofString "ra" = Str.mk (Array.mk [nat_lit 114, nat_lit 97]) := rfl
theorem a128 : Str.ofString "range" = Str.mk (Array.mk [nat_lit 114, nat_lit 97, nat_lit 110, nat_lit 103, nat_lit 101]) := rfl
theorem a129 : Str.ofString "rb" = Str.mk (Array.mk [nat_lit 114, nat_lit 98]) := rfl
theorem a130 : Str.ofString "replace" = Str.mk (Array.mk [nat_lit 114, nat_lit 101, nat_lit 112, nat_lit 108, nat_lit 97, nat_lit 99, nat_lit 101]) := rfl
theorem a131 : Str.ofString "reset" = Str.mk (Array.mk [nat_lit 114, nat_lit 101, nat_lit 115, nat_lit 101, nat_lit 116]) := rfl
theorem a132 : Str.ofString "rest" = Str.mk (Array.mk [nat_lit 114, nat_lit 101, nat_lit 115, nat_lit 116]) := rfl
theorem a133 : Str.ofString "rn" = Str.mk (Array.mk [nat_lit 114, nat_lit 110]) := rfl
theorem a134 : Str.ofString "row" = Str.mk (Array.mk [nat_lit 114, nat_lit 111, nat_lit 119]) := rfl
theorem a135 : Str.ofString "rows" = Str.mk (Array.mk [nat_lit 114, nat_lit 111, nat_lit 119, nat_lit 115]) := rfl
theorem a136 : Str.ofString "score" = Str.mk (Array.mk [nat_lit 115, nat_lit 99, nat_lit 111, nat_lit 114, nat_lit 101]) := rfl
theorem a137 : Str.ofString "scorer" = Str.mk (Array.mk [nat_lit 115, nat_lit 99, nat_lit 111, nat_lit 114, nat_lit 101, nat_lit 114]) := rfl
theorem a138 : Str.ofString "script" = Str.mk (Array.mk [nat_lit 115, nat_lit 99, nat_lit 114, nat_lit 105, nat_lit 112, nat_lit 116]) := rfl
theorem a139 : Str.ofString "self" = Str.mk (Array.mk [nat_lit 115, nat_lit 101, nat_lit 108, nat_lit 102]) := rfl
theorem a140 : Str.ofString "size" = Str.mk (Array.mk [nat_lit 115, nat_lit 105, nat_lit 122, nat_lit 101]) := rfl
theorem a141 : Str.ofString "skip_to" = Str.mk (Array.mk [nat_lit 115, nat_lit 107, nat_lit 105, nat_lit 112, nat_lit 95, nat_lit 116, nat_lit 111]) := rfl
theorem a142 : Str.ofString "skip_to_quality" = Str.mk (Array.mk [nat_lit 115, nat_lit 107, nat_lit 105, nat_lit 112, nat_lit 95, nat_lit 116, nat_lit 111, nat_lit 95, nat_lit 113, nat_lit 117, nat_lit 97, nat_lit 108, nat_lit 105, nat_lit 116, nat_lit 121]) := rfl
theorem a143 : Str.ofString "sorted" = Str.mk (Array.mk [nat_lit 115, nat_lit 111, nat_lit 114, nat_lit 116, nat_lit 101, nat_lit 100]) := rfl
theorem a144 : Str.ofString "sr" = Str.mk (Array.mk [nat_lit 115, nat_lit 114]) := rfl
theorem a145 : Str.ofString "super" = Str.mk (Array.mk [nat_lit 115, nat_lit 117, nat_lit 112, nat_lit 101, nat_lit 114]) := rfl
theorem a146 : Str.ofString "supports_block_quality" = Str.mk (Array.mk [nat_lit 115, nat_lit 117, nat_lit 112, nat_lit 112, nat_lit 111, nat_lit 114, nat_lit 116, nat_lit 115, nat_lit 95, nat_lit 98, nat_lit 108, nat_lit 111, nat_lit 99, nat_lit 107, nat_lit 95, nat_lit 113, nat_lit 117, nat_lit 97, nat_lit 108, nat_lit 105, nat_lit 116, nat_lit 121]) := rfl
theorem a147 : Str.ofString "term" = Str.mk (Array.mk [nat_lit 116, nat_lit 101, nat_lit 114, nat_lit 109]) := rfl
theorem a148 : Str.ofString "term_matchers" = Str.mk (Array.mk [nat_lit 116, nat_lit 101, nat_lit 114, nat_lit 109, nat_lit 95, nat_lit 109, nat_lit 97, nat_lit 116, nat_lit 99, nat_lit 104, nat_lit 101, nat_lit 114, nat_lit 115]) := rfl
theorem a149 : Str.ofString "terminfo" = Str.mk (Array.mk [nat_lit 116, nat_lit 101, nat_lit 114, nat_lit 109, nat_lit 105, nat_lit 110, nat_lit 102, nat_lit 111]) := rfl
theorem a150 : Str.ofString "text" = Str.mk (Array.mk [nat_lit 116, nat_lit 101, nat_lit 120, nat_lit 116]) := rfl
theorem a151 : Str.ofString "texts" = Str.mk (Array.mk [nat_lit 116, nat_lit 101, nat_lit 120, nat_lit 116, nat_lit 115]) := rfl
theorem a152 : Str.ofString "total" = Str.mk (Array.mk [nat_lit 116, nat_lit 111, nat_lit 116, nat_lit 97, nat_lit 108]) := rfl
theorem a153 : Str.ofString "tree" = Str.mk (Array.mk [nat_lit 116, nat_lit 114, nat_lit 101, nat_lit 101]) := rfl
theorem a154 : Str.ofString "turn" = Str.mk (Array.mk [nat_lit 116, nat_lit 117, nat_lit 114, nat_lit 110]) := rfl
theorem a155 : Str.ofString "two" = Str.mk (Array.mk [nat_lit 116, nat_lit 119, nat_lit 111]) := rfl
theorem a156 : Str.ofString "value" = Str.mk (Array.mk [nat_lit 118, nat_lit 97, nat_lit 108, nat_lit 117, nat_lit 101]) := rfl
theorem a157 : Str.ofString "values" = Str.mk (Array.mk [nat_lit 118, nat_lit 97, nat_lit 108, nat_lit 117, nat_lit 101, nat_lit 115]) := rfl
theorem a158 : Str.ofString "way" = Str.mk (Array.mk [nat_lit 119, nat_lit 97, nat_lit 121]) := rfl
theorem a159 : Str.ofString "weight" = Str.mk (Array.mk [nat_lit 119, nat_lit 101, nat_lit 105, nat_lit 103, nat_lit 104, nat_lit 116]) := rfl
theorem a160 : Str.ofString "weights" = Str.mk (Array.mk [nat_lit 119, nat_lit 101, nat_lit 105, nat_lit 103, nat_lit 104, nat_lit 116, nat_lit 115]) := rfl
theorem a161 : Str.ofString "whoosh.matching.binary" = Str.mk (Array.mk [nat_lit 119, nat_lit 104, nat_lit 111, nat_lit 111, nat_lit 115, nat_lit 104, nat_lit 46, nat_lit 109, nat_lit 97, nat_lit 116, nat_lit 99, nat_lit 104, nat_lit 105, nat_lit 110, nat_lit 103, nat_lit 46, nat_lit 98, nat_lit 105, nat_lit 110, nat_lit 97, nat_lit 114, nat_lit 121]) := rfl
theorem a162 : Str.ofString "whoosh.matching.mcore" = Str.mk (Array.mk [nat_lit 119, nat_lit 104, nat_lit 111, nat_lit 111, nat_lit 115, nat_lit 104, nat_lit 46, nat_lit 109, nat_lit 97, nat_lit 116, nat_lit 99, nat_lit 104, nat_lit 105, nat_lit 110, nat_lit 103, nat_lit 46, nat_lit 109, nat_lit 99, nat_lit 111, nat_lit 114, nat_lit 101]) := rfl
theorem a163 : Str.ofString "whoosh.matching.wrappers" = Str.mk (Array.mk [nat_lit 119, nat_lit 104, nat_lit 111, nat_lit 111, nat_lit 115, nat_lit 104, nat_lit 46, nat_lit 109, nat_lit 97, nat_lit 116, nat_lit 99, nat_lit 104, nat_lit 105, nat_lit 110, nat_lit 103, nat_lit 46, nat_lit 119, nat_lit 114, nat_lit 97, nat_lit 112, nat_lit 112, nat_lit 101, nat_lit 114, nat_lit 115]) := rfl
theorem a164 : Str.ofString "whoosh.scoring" = Str.mk (Array.mk [nat_lit 119, nat_lit 104, nat_lit 111, nat_lit 111, nat_lit 115, nat_lit 104, nat_lit 46, nat_lit 115, nat_lit 99, nat_lit 111, nat_lit 114, nat_lit 105, nat_lit 110, nat_lit 103]) := rfl
theorem a165 : Str.ofString "word" = Str.mk (Array.mk [nat_lit 119, nat_lit 111, nat_lit 114, nat_lit 100]) := rfl
theorem a166 : Str.ofString "words" = Str.mk (Array.mk [nat_lit 119, nat_lit 111, nat_lit 114, nat_lit 100, nat_lit 115]) := rfl
structure Is {α : Type} (p q : α) : Prop where
  e : p = q
structure IsPw (q : Program) : Prop where
  e : pw = q
theorem IsPw.of {q : Program} (h : Is PySem.Challenge.pw_ah0049_01 q) : IsPw q := ⟨h.e⟩
noncomputable def tpS : { q : Program // IsPw q } := ⟨_, IsPw.of (by delta PySem.Challenge.pw_ah0049_01; dsimp only [a0, a1, a2, a3, a4, a5, a6, a7, a8, a9, a10, a11, a12, a13, a14, a15, a16, a17, a18, a19, a20, a21, a22, a23, a24, a25, a26, a27, a28, a29, a30, a31, a32, a33, a34, a35, a36, a37, a38, a39, a40, a41, a42, a43, a44, a45, a46, a47, a48, a49, a50, a51, a52, a53, a54, a55, a56, a57, a58, a59, a60, a61, a62, a63, a64, a65, a66, a67, a68, a69, a70, a71, a72, a73, a74, a75, a76, a77, a78, a79, a80, a81, a82, a83, a84, a85, a86, a87, a88, a89, a90, a91, a92, a93, a94, a95, a96, a97, a98, a99, a100, a101, a102, a103, a104, a105, a106, a107, a108, a109, a110, a111, a112, a113, a114, a115, a116, a117, a118, a119, a120, a121, a122, a123, a124, a125, a126, a127, a128, a129, a130, a131, a132, a133, a134, a135, a136, a137, a138, a139, a140, a141, a142, a143, a144, a145, a146, a147, a148, a149, a150, a151, a152, a153, a154, a155, a156, a157, a158, a159, a160, a161, a162, a163, a164, a165, a166]; exact ⟨rfl⟩)⟩
noncomputable abbrev tp : Program := tpS.1
theorem tpe : pw = tp := tpS.2.e

noncomputable def dead : Stmt := .Pass ⟨0, 0, 0, 0⟩
noncomputable def stOf (p : Program) (i : Nat) : Stmt := (p.main.body[i]?).getD dead
noncomputable def subOf (p : Program) (i j : Nat) : Stmt := match stOf p i with
  | .ClassDef _ _ _ b _ _ _ _ _ _ _ => (b[j]?).getD dead
  | _ => dead
noncomputable def fName : Stmt → PySem.Str
  | .FunctionDef n _ _ _ _ _ _ _ _ _ => n
  | _ => Str.empty
noncomputable def fArgs : Stmt → Arguments
  | .FunctionDef _ a _ _ _ _ _ _ _ _ => a
  | _ => ⟨[], [], none, [], [], none, []⟩
noncomputable def fBody : Stmt → List Stmt
  | .FunctionDef _ _ b _ _ _ _ _ _ _ => b
  | _ => []
noncomputable def fScope : Stmt → Scope
  | .FunctionDef _ _ _ _ _ _ s _ _ _ => s
  | _ => ⟨.function, [], false, false, []⟩

noncomputable def insAll : BT → Nat → List Obj → BT
  | t, _, [] => t
  | t, n, o :: r => insAll (t.ins n o) (n + 1) r
noncomputable def setAll : BT → List (Nat × Obj) → BT
  | t, [] => t
  | t, (a, o) :: r => setAll (t.set a fun _ => o) r
noncomputable abbrev yTuple : String := PySem.W.SL.s2766695959194262286x5
noncomputable abbrev yCode : String := PySem.W.SL.s5856160107412720595x4
noncomputable abbrev yFunction : String := PySem.W.SL.s7174869446012820540x8
noncomputable def oT (xs : List Value) : Obj := ⟨.type yTuple, none, .seq ⟨xs⟩ 0, ⟨[]⟩⟩
noncomputable def oF (xs : List Value) : Obj := ⟨.none, none, .fields ⟨xs⟩, ⟨[]⟩⟩
noncomputable def oC (xs : List Value) : Obj := ⟨.type yCode, none, .fields ⟨xs⟩, ⟨[]⟩⟩
noncomputable def oQ (s : Stmt) (q : PySem.Str) : Obj := ⟨.none, none, .func { name := fName s, qualname := q, params := fArgs s, body := .stmts (fBody s), scope := fScope s, globals := 0, closure := [], defaults := .none, kwdefaults := .none }, ⟨[]⟩⟩
noncomputable def oU (s : Stmt) (q : PySem.Str) (cl : List (PySem.Str × Addr)) (dv pm cd ct : Value) : Obj := ⟨.type yFunction, none, .func { name := fName s, qualname := q, params := fArgs s, body := .stmts (fBody s), scope := fScope s, globals := 3, closure := cl, defaults := dv, kwdefaults := .none, pyModule := pm, code := cd, closureTuple := ct }, ⟨[]⟩⟩
noncomputable def enAll (P : Params) : List (PySem.Str × Nat × Value) → List DictEntry
  | [] => []
  | (x, t, v) :: r => ⟨PyData.keyHash P x, .str x t, v⟩ :: enAll P r
noncomputable def oD (P : Params) (c : Value) (es : List (PySem.Str × Nat × Value)) (n : Nat) : Obj := ⟨c, none, .dict ⟨enAll P es⟩ n, ⟨[]⟩⟩
noncomputable def tBoot (P : Params) : BT := insAll .nil 0 [boot_o_0 P, boot_o_1 P, boot_o_2 P, boot_o_3 P, boot_o_4 P, boot_o_5 P, boot_o_6 P, boot_o_7 P, boot_o_8 P, boot_o_9 P, boot_o_10 P]

noncomputable def envT (p : Program) : Env := { scope := p.main.scope, locals := mainNs, globals := mainNs, cells := [], code := .ref 13, frame := some 14 }
noncomputable def cdT (p : Program) : Code := .body (behindTheImports p) (envT p)
noncomputable def B0 : List Frame := [topFrame ⟨0, 0, 0, 0⟩]
noncomputable abbrev ST (t : BT) (n k : Nat) (os : OsState) : SharedT := ⟨t, n, {}, ⟨[]⟩, {}, k, os⟩
noncomputable abbrev TB := String → Option Builtin
noncomputable abbrev SR := TB → Program → World → Nat → Option Value → Nat → Nat → SharedT → Thread → Option (Flow × SharedT × Code × Pos)
noncomputable def Piece (sr : SR) (tb : TB) (p : Program) (i j : Nat) (t t' : Program → Params → BT) (n k n' k' m : Nat) (q q' : Pos) : Prop :=
  ∀ (w : World) (os : OsState), sr tb p w 11 (some (.ref 6)) 1 m (ST (t p w.params) n k os) (piecesOf ((p.main.body.drop i).take j) (envT p) (cdT p) q B0) = some (.next, ST (t' p w.params) n' k' os, cdT p, q')
noncomputable abbrev wSR : SR := PySem.W.Fast.tw10110043849684766642
noncomputable abbrev wTB : TB := PySem.W.Fast.tw14364793385576792824
theorem srE : @segRunT = wSR := PySem.W.Fast.te10110043849684766642
theorem tbE : treeTable = wTB := PySem.W.Fast.te14364793385576792824
theorem piece_of {i j : Nat} {t t' : Program → Params → BT} {n k n' k' m : Nat} {q q' : Pos} (h : Piece wSR wTB tp i j t t' n k n' k' m q q') : Piece segRunT treeTable pw i j t t' n k n' k' m q q' := by
  have e : (Piece segRunT treeTable pw i j t t' n k n' k' m q q') = Piece wSR wTB tp i j t t' n k n' k' m q q' := by rw [← srE, ← tbE, ← tpe]
  exact e ▸ h
noncomputable abbrev y0 : String := PySem.W.SL.s658472552662922059x5
noncomputable abbrev y1 : String := PySem.W.SL.s7097527257260152453x26
noncomputable abbrev y2 : String := PySem.W.SL.s14018661285674007319x4
noncomputable abbrev y3 : String := PySem.W.SL.s5946037652744460706x9
noncomputable abbrev y4 : String := PySem.W.SL.s11030030927630378310x26
noncomputable abbrev y5 : String := PySem.W.SL.s10062305145149207511x16
noncomputable abbrev y6 : String := PySem.W.SL.s17162191345867700912x4
noncomputable abbrev y7 : String := PySem.W.SL.s4278001404047624695x13
noncomputable abbrev y8 : String := PySem.W.SL.s2742458400755230247x6
noncomputable abbrev y9 : String := PySem.W.SL.s5160863994218179198x17
noncomputable abbrev y10 : String := PySem.W.SL.s14755015743595814543x17
noncomputable abbrev y11 : String := PySem.W.SL.s10220274742760427390x26
noncomputable abbrev y12 : String := PySem.W.SL.s4290257624100764138x5
noncomputable abbrev y13 : String := PySem.W.SL.s4860613602091757760x24
noncomputable abbrev y14 : String := PySem.W.SL.s11443829558043349243x14
noncomputable abbrev y15 : String := PySem.W.SL.s6511155373996960695x17
noncomputable abbrev y16 : String := PySem.W.SL.s12411053484034534018x21
noncomputable abbrev y17 : String := PySem.W.SL.s15660640913423913556x4
noncomputable def n0 : PySem.Str := ⟨⟨[60, 109, 111, 100, 117, 108, 101, 62]⟩⟩
noncomputable def n1 : PySem.Str := ⟨⟨[47, 99, 108, 97, 105, 109, 47, 99, 117, 116, 46, 112, 121]⟩⟩
noncomputable def n2 : PySem.Str := ⟨⟨[95, 95, 109, 97, 105, 110, 95, 95]⟩⟩
noncomputable def n3 : PySem.Str := ⟨⟨[95, 95, 110, 97, 109, 101, 95, 95]⟩⟩
noncomputable def n4 : PySem.Str := ⟨⟨[95, 95, 100, 111, 99, 95, 95]⟩⟩
noncomputable def n5 : PySem.Str := ⟨⟨[95, 95, 112, 97, 99, 107, 97, 103, 101, 95, 95]⟩⟩
noncomputable def n6 : PySem.Str := ⟨⟨[95, 95, 108, 111, 97, 100, 101, 114, 95, 95]⟩⟩
noncomputable def n7 : PySem.Str := ⟨⟨[95, 95, 115, 112, 101, 99, 95, 95]⟩⟩
noncomputable def n8 : PySem.Str := ⟨⟨[95, 95, 97, 110, 110, 111, 116, 97, 116, 105, 111, 110, 115, 95, 95]⟩⟩
noncomputable def n9 : PySem.Str := ⟨⟨[95, 95, 98, 117, 105, 108, 116, 105, 110, 115, 95, 95]⟩⟩
noncomputable def n10 : PySem.Str := ⟨⟨[95, 95, 102, 105, 108, 101, 95, 95]⟩⟩
noncomputable def n11 : PySem.Str := ⟨⟨[95, 95, 99, 97, 99, 104, 101, 100, 95, 95]⟩⟩
noncomputable def n12 : PySem.Str := ⟨⟨[95, 119, 97, 108, 108]⟩⟩
noncomputable def n13 : PySem.Str := ⟨⟨[107]⟩⟩
noncomputable def n14 : PySem.Str := ⟨⟨[119, 104, 111, 111, 115, 104, 46, 109, 97, 116, 99, 104, 105, 110, 103, 46, 109, 99, 111, 114, 101]⟩⟩
noncomputable def n15 : PySem.Str := ⟨⟨[116, 121, 112, 101, 46, 95, 95, 115, 117, 98, 99, 108, 97, 115, 115, 101, 115, 95, 95, 46, 69, 120, 99, 101, 112, 116, 105, 111, 110, 46, 48]⟩⟩
noncomputable def n16 : PySem.Str := ⟨⟨[116, 121, 112, 101, 46, 95, 95, 115, 117, 98, 99, 108, 97, 115, 115, 101, 115, 95, 95, 46, 69, 120, 99, 101, 112, 116, 105, 111, 110, 46, 110]⟩⟩
noncomputable def n17 : PySem.Str := ⟨⟨[82, 101, 97, 100, 84, 111, 111, 70, 97, 114]⟩⟩
noncomputable def n18 : PySem.Str := ⟨⟨[95, 95, 109, 111, 100, 117, 108, 101, 95, 95]⟩⟩
noncomputable def n19 : PySem.Str := ⟨⟨[95, 95, 113, 117, 97, 108, 110, 97, 109, 101, 95, 95]⟩⟩
noncomputable def n20 : PySem.Str := ⟨⟨[95, 95, 102, 105, 114, 115, 116, 108, 105, 110, 101, 110, 111, 95, 95]⟩⟩
noncomputable def n21 : PySem.Str := ⟨⟨[95, 95, 115, 116, 97, 116, 105, 99, 95, 97, 116, 116, 114, 105, 98, 117, 116, 101, 115, 95, 95]⟩⟩
noncomputable def n22 : PySem.Str := ⟨⟨[95, 95, 119, 101, 97, 107, 114, 101, 102, 95, 95]⟩⟩
noncomputable def n23 : PySem.Str := ⟨⟨[116, 121, 112, 101, 46, 95, 95, 115, 117, 98, 99, 108, 97, 115, 115, 101, 115, 95, 95, 46, 69, 120, 99, 101, 112, 116, 105, 111, 110, 46, 49]⟩⟩
noncomputable def n24 : PySem.Str := ⟨⟨[78, 111, 81, 117, 97, 108, 105, 116, 121, 65, 118, 97, 105, 108, 97, 98, 108, 101]⟩⟩
noncomputable def n25 : PySem.Str := ⟨⟨[77, 97, 116, 99, 104, 101, 114]⟩⟩
noncomputable def n26 : PySem.Str := ⟨⟨[105, 115, 95, 97, 99, 116, 105, 118, 101]⟩⟩
noncomputable def n27 : PySem.Str := ⟨⟨[114, 101, 115, 101, 116]⟩⟩
noncomputable def n28 : PySem.Str := ⟨⟨[116, 101, 114, 109]⟩⟩
noncomputable def n29 : PySem.Str := ⟨⟨[116, 101, 114, 109, 95, 109, 97, 116, 99, 104, 101, 114, 115]⟩⟩
noncomputable def n30 : PySem.Str := ⟨⟨[109, 97, 116, 99, 104, 105, 110, 103, 95, 116, 101, 114, 109, 115]⟩⟩
noncomputable def n31 : PySem.Str := ⟨⟨[105, 115, 95, 108, 101, 97, 102]⟩⟩
noncomputable def n32 : PySem.Str := ⟨⟨[99, 104, 105, 108, 100, 114, 101, 110]⟩⟩
noncomputable def n33 : PySem.Str := ⟨⟨[114, 101, 112, 108, 97, 99, 101]⟩⟩
noncomputable def n34 : PySem.Str := ⟨⟨[99, 111, 112, 121]⟩⟩
noncomputable def n35 : PySem.Str := ⟨⟨[100, 101, 112, 116, 104]⟩⟩
noncomputable def n36 : PySem.Str := ⟨⟨[115, 117, 112, 112, 111, 114, 116, 115, 95, 98, 108, 111, 99, 107, 95, 113, 117, 97, 108, 105, 116, 121]⟩⟩
noncomputable def n37 : PySem.Str := ⟨⟨[109, 97, 120, 95, 113, 117, 97, 108, 105, 116, 121]⟩⟩
noncomputable def n38 : PySem.Str := ⟨⟨[98, 108, 111, 99, 107, 95, 113, 117, 97, 108, 105, 116, 121]⟩⟩
noncomputable def n39 : PySem.Str := ⟨⟨[105, 100]⟩⟩
noncomputable def n40 : PySem.Str := ⟨⟨[97, 108, 108, 95, 105, 100, 115]⟩⟩
noncomputable def n41 : PySem.Str := ⟨⟨[97, 108, 108, 95, 105, 116, 101, 109, 115]⟩⟩
noncomputable def n42 : PySem.Str := ⟨⟨[118, 97, 108, 117, 101]⟩⟩
noncomputable def n43 : PySem.Str := ⟨⟨[115, 107, 105, 112, 95, 116, 111]⟩⟩
noncomputable def n44 : PySem.Str := ⟨⟨[115, 107, 105, 112, 95, 116, 111, 95, 113, 117, 97, 108, 105, 116, 121]⟩⟩
noncomputable def n45 : PySem.Str := ⟨⟨[110, 101, 120, 116]⟩⟩
noncomputable def n46 : PySem.Str := ⟨⟨[115, 99, 111, 114, 101]⟩⟩
noncomputable def n47 : PySem.Str := ⟨⟨[115, 101, 108, 102]⟩⟩
noncomputable def n48 : PySem.Str := ⟨⟨[77, 97, 116, 99, 104, 101, 114, 46, 105, 115, 95, 97, 99, 116, 105, 118, 101]⟩⟩
noncomputable def n49 : PySem.Str := ⟨⟨[77, 97, 116, 99, 104, 101, 114, 46, 114, 101, 115, 101, 116]⟩⟩
noncomputable def n50 : PySem.Str := ⟨⟨[77, 97, 116, 99, 104, 101, 114, 46, 116, 101, 114, 109]⟩⟩
noncomputable def n51 : PySem.Str := ⟨⟨[77, 97, 116, 99, 104, 101, 114, 46, 116, 101, 114, 109, 95, 109, 97, 116, 99, 104, 101, 114, 115]⟩⟩
noncomputable def n52 : PySem.Str := ⟨⟨[77, 97, 116, 99, 104, 101, 114, 46, 109, 97, 116, 99, 104, 105, 110, 103, 95, 116, 101, 114, 109, 115]⟩⟩
noncomputable def n53 : PySem.Str := ⟨⟨[77, 97, 116, 99, 104, 101, 114, 46, 105, 115, 95, 108, 101, 97, 102]⟩⟩
noncomputable def n54 : PySem.Str := ⟨⟨[77, 97, 116, 99, 104, 101, 114, 46, 99, 104, 105, 108, 100, 114, 101, 110]⟩⟩
noncomputable def n55 : PySem.Str := ⟨⟨[109, 105, 110, 113, 117, 97, 108, 105, 116, 121]⟩⟩
noncomputable def n56 : PySem.Str := ⟨⟨[77, 97, 116, 99, 104, 101, 114, 46, 114, 101, 112, 108, 97, 99, 101]⟩⟩
noncomputable def n57 : PySem.Str := ⟨⟨[77, 97, 116, 99, 104, 101, 114, 46, 99, 111, 112, 121]⟩⟩
noncomputable def n58 : PySem.Str := ⟨⟨[77, 97, 116, 99, 104, 101, 114, 46, 100, 101, 112, 116, 104]⟩⟩
noncomputable def n59 : PySem.Str := ⟨⟨[77, 97, 116, 99, 104, 101, 114, 46, 115, 117, 112, 112, 111, 114, 116, 115, 95, 98, 108, 111, 99, 107, 95, 113, 117, 97, 108, 105, 116, 121]⟩⟩
noncomputable def n60 : PySem.Str := ⟨⟨[77, 97, 116, 99, 104, 101, 114, 46, 109, 97, 120, 95, 113, 117, 97, 108, 105, 116, 121]⟩⟩
noncomputable def n61 : PySem.Str := ⟨⟨[77, 97, 116, 99, 104, 101, 114, 46, 98, 108, 111, 99, 107, 95, 113, 117, 97, 108, 105, 116, 121]⟩⟩
noncomputable def n62 : PySem.Str := ⟨⟨[77, 97, 116, 99, 104, 101, 114, 46, 105, 100]⟩⟩
noncomputable def n63 : PySem.Str := ⟨⟨[77, 97, 116, 99, 104, 101, 114, 46, 97, 108, 108, 95, 105, 100, 115]⟩⟩
noncomputable def n64 : PySem.Str := ⟨⟨[77, 97, 116, 99, 104, 101, 114, 46, 97, 108, 108, 95, 105, 116, 101, 109, 115]⟩⟩
noncomputable def n65 : PySem.Str := ⟨⟨[77, 97, 116, 99, 104, 101, 114, 46, 118, 97, 108, 117, 101]⟩⟩
noncomputable def n66 : PySem.Str := ⟨⟨[77, 97, 116, 99, 104, 101, 114, 46, 115, 107, 105, 112, 95, 116, 111]⟩⟩
noncomputable def n67 : PySem.Str := ⟨⟨[77, 97, 116, 99, 104, 101, 114, 46, 115, 107, 105, 112, 95, 116, 111, 95, 113, 117, 97, 108, 105, 116, 121]⟩⟩
noncomputable def n68 : PySem.Str := ⟨⟨[77, 97, 116, 99, 104, 101, 114, 46, 110, 101, 120, 116]⟩⟩
noncomputable def n69 : PySem.Str := ⟨⟨[77, 97, 116, 99, 104, 101, 114, 46, 115, 99, 111, 114, 101]⟩⟩
noncomputable def n70 : PySem.Str := ⟨⟨[95, 95, 100, 105, 99, 116, 95, 95]⟩⟩
noncomputable def n71 : PySem.Str := ⟨⟨[78, 117, 108, 108, 77, 97, 116, 99, 104, 101, 114, 67, 108, 97, 115, 115]⟩⟩
noncomputable def n72 : PySem.Str := ⟨⟨[95, 95, 99, 97, 108, 108, 95, 95]⟩⟩
noncomputable def n73 : PySem.Str := ⟨⟨[95, 95, 114, 101, 112, 114, 95, 95]⟩⟩
noncomputable def n74 : PySem.Str := ⟨⟨[78, 117, 108, 108, 77, 97, 116, 99, 104, 101, 114, 67, 108, 97, 115, 115, 46, 95, 95, 99, 97, 108, 108, 95, 95]⟩⟩
noncomputable def n75 : PySem.Str := ⟨⟨[78, 117, 108, 108, 77, 97, 116, 99, 104, 101, 114, 67, 108, 97, 115, 115, 46, 95, 95, 114, 101, 112, 114, 95, 95]⟩⟩
noncomputable def n76 : PySem.Str := ⟨⟨[78, 117, 108, 108, 77, 97, 116, 99, 104, 101, 114, 67, 108, 97, 115, 115, 46, 115, 117, 112, 112, 111, 114, 116, 115, 95, 98, 108, 111, 99, 107, 95, 113, 117, 97, 108, 105, 116, 121]⟩⟩
noncomputable def n77 : PySem.Str := ⟨⟨[78, 117, 108, 108, 77, 97, 116, 99, 104, 101, 114, 67, 108, 97, 115, 115, 46, 109, 97, 120, 95, 113, 117, 97, 108, 105, 116, 121]⟩⟩
noncomputable def n78 : PySem.Str := ⟨⟨[78, 117, 108, 108, 77, 97, 116, 99, 104, 101, 114, 67, 108, 97, 115, 115, 46, 98, 108, 111, 99, 107, 95, 113, 117, 97, 108, 105, 116, 121]⟩⟩
noncomputable def n79 : PySem.Str := ⟨⟨[78, 117, 108, 108, 77, 97, 116, 99, 104, 101, 114, 67, 108, 97, 115, 115, 46, 115, 107, 105, 112, 95, 116, 111, 95, 113, 117, 97, 108, 105, 116, 121]⟩⟩
noncomputable def n80 : PySem.Str := ⟨⟨[78, 117, 108, 108, 77, 97, 116, 99, 104, 101, 114, 67, 108, 97, 115, 115, 46, 105, 115, 95, 97, 99, 116, 105, 118, 101]⟩⟩
noncomputable def n81 : PySem.Str := ⟨⟨[78, 117, 108, 108, 77, 97, 116, 99, 104, 101, 114, 67, 108, 97, 115, 115, 46, 114, 101, 115, 101, 116]⟩⟩
noncomputable def n82 : PySem.Str := ⟨⟨[78, 117, 108, 108, 77, 97, 116, 99, 104, 101, 114, 67, 108, 97, 115, 115, 46, 97, 108, 108, 95, 105, 100, 115]⟩⟩
noncomputable def n83 : PySem.Str := ⟨⟨[78, 117, 108, 108, 77, 97, 116, 99, 104, 101, 114, 67, 108, 97, 115, 115, 46, 99, 111, 112, 121]⟩⟩
noncomputable def n84 : PySem.Str := ⟨⟨[78, 117, 108, 108, 77, 97, 116, 99, 104, 101, 114]⟩⟩
noncomputable def n85 : PySem.Str := ⟨⟨[76, 105, 115, 116, 77, 97, 116, 99, 104, 101, 114]⟩⟩
noncomputable def n86 : PySem.Str := ⟨⟨[95, 95, 105, 110, 105, 116, 95, 95]⟩⟩
noncomputable def n87 : PySem.Str := ⟨⟨[119, 101, 105, 103, 104, 116]⟩⟩
noncomputable def n88 : PySem.Str := ⟨⟨[98, 108, 111, 99, 107, 95, 109, 105, 110, 95, 108, 101, 110, 103, 116, 104]⟩⟩
noncomputable def n89 : PySem.Str := ⟨⟨[98, 108, 111, 99, 107, 95, 109, 97, 120, 95, 108, 101, 110, 103, 116, 104]⟩⟩
noncomputable def n90 : PySem.Str := ⟨⟨[98, 108, 111, 99, 107, 95, 109, 97, 120, 95, 119, 101, 105, 103, 104, 116]⟩⟩
noncomputable def n91 : PySem.Str := ⟨⟨[105, 100, 115]⟩⟩
noncomputable def n92 : PySem.Str := ⟨⟨[119, 101, 105, 103, 104, 116, 115]⟩⟩
noncomputable def n93 : PySem.Str := ⟨⟨[118, 97, 108, 117, 101, 115]⟩⟩
noncomputable def n94 : PySem.Str := ⟨⟨[102, 111, 114, 109, 97, 116]⟩⟩
noncomputable def n95 : PySem.Str := ⟨⟨[115, 99, 111, 114, 101, 114]⟩⟩
noncomputable def n96 : PySem.Str := ⟨⟨[112, 111, 115, 105, 116, 105, 111, 110]⟩⟩
noncomputable def n97 : PySem.Str := ⟨⟨[97, 108, 108, 95, 119, 101, 105, 103, 104, 116, 115]⟩⟩
noncomputable def n98 : PySem.Str := ⟨⟨[116, 101, 114, 109, 105, 110, 102, 111]⟩⟩
noncomputable def n99 : PySem.Str := ⟨⟨[76, 105, 115, 116, 77, 97, 116, 99, 104, 101, 114, 46, 95, 95, 105, 110, 105, 116, 95, 95]⟩⟩
noncomputable def n100 : PySem.Str := ⟨⟨[76, 105, 115, 116, 77, 97, 116, 99, 104, 101, 114, 46, 105, 115, 95, 97, 99, 116, 105, 118, 101]⟩⟩
noncomputable def n101 : PySem.Str := ⟨⟨[76, 105, 115, 116, 77, 97, 116, 99, 104, 101, 114, 46, 114, 101, 115, 101, 116]⟩⟩
noncomputable def n102 : PySem.Str := ⟨⟨[76, 105, 115, 116, 77, 97, 116, 99, 104, 101, 114, 46, 115, 107, 105, 112, 95, 116, 111]⟩⟩
noncomputable def n103 : PySem.Str := ⟨⟨[76, 105, 115, 116, 77, 97, 116, 99, 104, 101, 114, 46, 116, 101, 114, 109]⟩⟩
noncomputable def n104 : PySem.Str := ⟨⟨[76, 105, 115, 116, 77, 97, 116, 99, 104, 101, 114, 46, 99, 111, 112, 121]⟩⟩
noncomputable def n105 : PySem.Str := ⟨⟨[76, 105, 115, 116, 77, 97, 116, 99, 104, 101, 114, 46, 114, 101, 112, 108, 97, 99, 101]⟩⟩
noncomputable def n106 : PySem.Str := ⟨⟨[76, 105, 115, 116, 77, 97, 116, 99, 104, 101, 114, 46, 115, 117, 112, 112, 111, 114, 116, 115, 95, 98, 108, 111, 99, 107, 95, 113, 117, 97, 108, 105, 116, 121]⟩⟩
noncomputable def n107 : PySem.Str := ⟨⟨[76, 105, 115, 116, 77, 97, 116, 99, 104, 101, 114, 46, 109, 97, 120, 95, 113, 117, 97, 108, 105, 116, 121]⟩⟩
noncomputable def n108 : PySem.Str := ⟨⟨[76, 105, 115, 116, 77, 97, 116, 99, 104, 101, 114, 46, 98, 108, 111, 99, 107, 95, 113, 117, 97, 108, 105, 116, 121]⟩⟩
noncomputable def n109 : PySem.Str := ⟨⟨[76, 105, 115, 116, 77, 97, 116, 99, 104, 101, 114, 46, 115, 107, 105, 112, 95, 116, 111, 95, 113, 117, 97, 108, 105, 116, 121]⟩⟩
noncomputable def n110 : PySem.Str := ⟨⟨[76, 105, 115, 116, 77, 97, 116, 99, 104, 101, 114, 46, 105, 100]⟩⟩
noncomputable def n111 : PySem.Str := ⟨⟨[76, 105, 115, 116, 77, 97, 116, 99, 104, 101, 114, 46, 97, 108, 108, 95, 105, 100, 115]⟩⟩
noncomputable def n112 : PySem.Str := ⟨⟨[76, 105, 115, 116, 77, 97, 116, 99, 104, 101, 114, 46, 97, 108, 108, 95, 105, 116, 101, 109, 115]⟩⟩
noncomputable def n113 : PySem.Str := ⟨⟨[76, 105, 115, 116, 77, 97, 116, 99, 104, 101, 114, 46, 118, 97, 108, 117, 101]⟩⟩
noncomputable def n114 : PySem.Str := ⟨⟨[76, 105, 115, 116, 77, 97, 116, 99, 104, 101, 114, 46, 110, 101, 120, 116]⟩⟩
noncomputable def n115 : PySem.Str := ⟨⟨[76, 105, 115, 116, 77, 97, 116, 99, 104, 101, 114, 46, 119, 101, 105, 103, 104, 116]⟩⟩
noncomputable def n116 : PySem.Str := ⟨⟨[76, 105, 115, 116, 77, 97, 116, 99, 104, 101, 114, 46, 98, 108, 111, 99, 107, 95, 109, 105, 110, 95, 108, 101, 110, 103, 116, 104]⟩⟩
noncomputable def n117 : PySem.Str := ⟨⟨[76, 105, 115, 116, 77, 97, 116, 99, 104, 101, 114, 46, 98, 108, 111, 99, 107, 95, 109, 97, 120, 95, 108, 101, 110, 103, 116, 104]⟩⟩
noncomputable def n118 : PySem.Str := ⟨⟨[76, 105, 115, 116, 77, 97, 116, 99, 104, 101, 114, 46, 98, 108, 111, 99, 107, 95, 109, 97, 120, 95, 119, 101, 105, 103, 104, 116]⟩⟩
noncomputable def n119 : PySem.Str := ⟨⟨[76, 105, 115, 116, 77, 97, 116, 99, 104, 101, 114, 46, 115, 99, 111, 114, 101]⟩⟩
noncomputable def n120 : PySem.Str := ⟨⟨[95, 97, 108, 108, 95, 119, 101, 105, 103, 104, 116, 115]⟩⟩
noncomputable def n121 : PySem.Str := ⟨⟨[95, 102, 111, 114, 109, 97, 116]⟩⟩
noncomputable def n122 : PySem.Str := ⟨⟨[95, 105]⟩⟩
noncomputable def n123 : PySem.Str := ⟨⟨[95, 105, 100, 115]⟩⟩
noncomputable def n124 : PySem.Str := ⟨⟨[95, 115, 99, 111, 114, 101, 114]⟩⟩
noncomputable def n125 : PySem.Str := ⟨⟨[95, 116, 101, 114, 109]⟩⟩
noncomputable def n126 : PySem.Str := ⟨⟨[95, 116, 101, 114, 109, 105, 110, 102, 111]⟩⟩
noncomputable def n127 : PySem.Str := ⟨⟨[95, 118, 97, 108, 117, 101, 115]⟩⟩
noncomputable def n128 : PySem.Str := ⟨⟨[95, 119, 101, 105, 103, 104, 116, 115]⟩⟩
noncomputable def n129 : PySem.Str := ⟨⟨[119, 104, 111, 111, 115, 104, 46, 109, 97, 116, 99, 104, 105, 110, 103, 46, 119, 114, 97, 112, 112, 101, 114, 115]⟩⟩
noncomputable def n130 : PySem.Str := ⟨⟨[77, 117, 108, 116, 105, 77, 97, 116, 99, 104, 101, 114]⟩⟩
noncomputable def n131 : PySem.Str := ⟨⟨[95, 110, 101, 120, 116, 95, 109, 97, 116, 99, 104, 101, 114]⟩⟩
noncomputable def n132 : PySem.Str := ⟨⟨[109, 97, 116, 99, 104, 101, 114, 115]⟩⟩
noncomputable def n133 : PySem.Str := ⟨⟨[105, 100, 111, 102, 102, 115, 101, 116, 115]⟩⟩
noncomputable def n134 : PySem.Str := ⟨⟨[99, 117, 114, 114, 101, 110, 116]⟩⟩
noncomputable def n135 : PySem.Str := ⟨⟨[77, 117, 108, 116, 105, 77, 97, 116, 99, 104, 101, 114, 46, 95, 95, 105, 110, 105, 116, 95, 95]⟩⟩
noncomputable def n136 : PySem.Str := ⟨⟨[77, 117, 108, 116, 105, 77, 97, 116, 99, 104, 101, 114, 46, 105, 115, 95, 97, 99, 116, 105, 118, 101]⟩⟩
noncomputable def n137 : PySem.Str := ⟨⟨[77, 117, 108, 116, 105, 77, 97, 116, 99, 104, 101, 114, 46, 114, 101, 115, 101, 116]⟩⟩
noncomputable def n138 : PySem.Str := ⟨⟨[77, 117, 108, 116, 105, 77, 97, 116, 99, 104, 101, 114, 46, 99, 104, 105, 108, 100, 114, 101, 110]⟩⟩
noncomputable def n139 : PySem.Str := ⟨⟨[77, 117, 108, 116, 105, 77, 97, 116, 99, 104, 101, 114, 46, 95, 110, 101, 120, 116, 95, 109, 97, 116, 99, 104, 101, 114]⟩⟩
noncomputable def n140 : PySem.Str := ⟨⟨[77, 117, 108, 116, 105, 77, 97, 116, 99, 104, 101, 114, 46, 99, 111, 112, 121]⟩⟩
noncomputable def n141 : PySem.Str := ⟨⟨[77, 117, 108, 116, 105, 77, 97, 116, 99, 104, 101, 114, 46, 100, 101, 112, 116, 104]⟩⟩
noncomputable def n142 : PySem.Str := ⟨⟨[109]⟩⟩
noncomputable def n143 : PySem.Str := ⟨⟨[77, 117, 108, 116, 105, 77, 97, 116, 99, 104, 101, 114, 46, 114, 101, 112, 108, 97, 99, 101]⟩⟩
noncomputable def n144 : PySem.Str := ⟨⟨[77, 117, 108, 116, 105, 77, 97, 116, 99, 104, 101, 114, 46, 105, 100]⟩⟩
noncomputable def n145 : PySem.Str := ⟨⟨[77, 117, 108, 116, 105, 77, 97, 116, 99, 104, 101, 114, 46, 97, 108, 108, 95, 105, 100, 115]⟩⟩
noncomputable def n146 : PySem.Str := ⟨⟨[77, 117, 108, 116, 105, 77, 97, 116, 99, 104, 101, 114, 46, 118, 97, 108, 117, 101]⟩⟩
noncomputable def n147 : PySem.Str := ⟨⟨[77, 117, 108, 116, 105, 77, 97, 116, 99, 104, 101, 114, 46, 110, 101, 120, 116]⟩⟩
noncomputable def n148 : PySem.Str := ⟨⟨[111, 102, 102, 115, 101, 116, 115]⟩⟩
noncomputable def n149 : PySem.Str := ⟨⟨[114]⟩⟩
noncomputable def n150 : PySem.Str := ⟨⟨[109, 114]⟩⟩
noncomputable def n151 : PySem.Str := ⟨⟨[115, 114]⟩⟩
noncomputable def n152 : PySem.Str := ⟨⟨[77, 117, 108, 116, 105, 77, 97, 116, 99, 104, 101, 114, 46, 115, 107, 105, 112, 95, 116, 111]⟩⟩
noncomputable def n153 : PySem.Str := ⟨⟨[77, 117, 108, 116, 105, 77, 97, 116, 99, 104, 101, 114, 46, 115, 117, 112, 112, 111, 114, 116, 115, 95, 98, 108, 111, 99, 107, 95, 113, 117, 97, 108, 105, 116, 121]⟩⟩
noncomputable def n154 : PySem.Str := ⟨⟨[77, 117, 108, 116, 105, 77, 97, 116, 99, 104, 101, 114, 46, 109, 97, 120, 95, 113, 117, 97, 108, 105, 116, 121]⟩⟩
noncomputable def n155 : PySem.Str := ⟨⟨[77, 117, 108, 116, 105, 77, 97, 116, 99, 104, 101, 114, 46, 98, 108, 111, 99, 107, 95, 113, 117, 97, 108, 105, 116, 121]⟩⟩
noncomputable def n156 : PySem.Str := ⟨⟨[77, 117, 108, 116, 105, 77, 97, 116, 99, 104, 101, 114, 46, 119, 101, 105, 103, 104, 116]⟩⟩
noncomputable def n157 : PySem.Str := ⟨⟨[77, 117, 108, 116, 105, 77, 97, 116, 99, 104, 101, 114, 46, 115, 99, 111, 114, 101]⟩⟩
noncomputable def n158 : PySem.Str := ⟨⟨[119, 104, 111, 111, 115, 104, 46, 109, 97, 116, 99, 104, 105, 110, 103, 46, 98, 105, 110, 97, 114, 121]⟩⟩
noncomputable def n159 : PySem.Str := ⟨⟨[66, 105, 77, 97, 116, 99, 104, 101, 114]⟩⟩
noncomputable def n160 : PySem.Str := ⟨⟨[97]⟩⟩
noncomputable def n161 : PySem.Str := ⟨⟨[98]⟩⟩
noncomputable def n162 : PySem.Str := ⟨⟨[66, 105, 77, 97, 116, 99, 104, 101, 114, 46, 95, 95, 105, 110, 105, 116, 95, 95]⟩⟩
noncomputable def n163 : PySem.Str := ⟨⟨[66, 105, 77, 97, 116, 99, 104, 101, 114, 46, 114, 101, 115, 101, 116]⟩⟩
noncomputable def n164 : PySem.Str := ⟨⟨[66, 105, 77, 97, 116, 99, 104, 101, 114, 46, 99, 104, 105, 108, 100, 114, 101, 110]⟩⟩
noncomputable def n165 : PySem.Str := ⟨⟨[66, 105, 77, 97, 116, 99, 104, 101, 114, 46, 99, 111, 112, 121]⟩⟩
noncomputable def n166 : PySem.Str := ⟨⟨[66, 105, 77, 97, 116, 99, 104, 101, 114, 46, 100, 101, 112, 116, 104]⟩⟩
noncomputable def n167 : PySem.Str := ⟨⟨[114, 97]⟩⟩
noncomputable def n168 : PySem.Str := ⟨⟨[114, 98]⟩⟩
noncomputable def n169 : PySem.Str := ⟨⟨[66, 105, 77, 97, 116, 99, 104, 101, 114, 46, 115, 107, 105, 112, 95, 116, 111]⟩⟩
noncomputable def n170 : PySem.Str := ⟨⟨[66, 105, 77, 97, 116, 99, 104, 101, 114, 46, 115, 117, 112, 112, 111, 114, 116, 115, 95, 98, 108, 111, 99, 107, 95, 113, 117, 97, 108, 105, 116, 121]⟩⟩
noncomputable def n171 : PySem.Str := ⟨⟨[65, 100, 100, 105, 116, 105, 118, 101, 66, 105, 77, 97, 116, 99, 104, 101, 114]⟩⟩
noncomputable def n172 : PySem.Str := ⟨⟨[113]⟩⟩
noncomputable def n173 : PySem.Str := ⟨⟨[65, 100, 100, 105, 116, 105, 118, 101, 66, 105, 77, 97, 116, 99, 104, 101, 114, 46, 109, 97, 120, 95, 113, 117, 97, 108, 105, 116, 121]⟩⟩
noncomputable def n174 : PySem.Str := ⟨⟨[98, 113]⟩⟩
noncomputable def n175 : PySem.Str := ⟨⟨[65, 100, 100, 105, 116, 105, 118, 101, 66, 105, 77, 97, 116, 99, 104, 101, 114, 46, 98, 108, 111, 99, 107, 95, 113, 117, 97, 108, 105, 116, 121]⟩⟩
noncomputable def n176 : PySem.Str := ⟨⟨[65, 100, 100, 105, 116, 105, 118, 101, 66, 105, 77, 97, 116, 99, 104, 101, 114, 46, 119, 101, 105, 103, 104, 116]⟩⟩
noncomputable def n177 : PySem.Str := ⟨⟨[65, 100, 100, 105, 116, 105, 118, 101, 66, 105, 77, 97, 116, 99, 104, 101, 114, 46, 115, 99, 111, 114, 101]⟩⟩
noncomputable def n178 : PySem.Str := ⟨⟨[85, 110, 105, 111, 110, 77, 97, 116, 99, 104, 101, 114]⟩⟩
noncomputable def n179 : PySem.Str := ⟨⟨[95, 105, 100]⟩⟩
noncomputable def n180 : PySem.Str := ⟨⟨[97, 95, 97, 99, 116, 105, 118, 101]⟩⟩
noncomputable def n181 : PySem.Str := ⟨⟨[98, 95, 97, 99, 116, 105, 118, 101]⟩⟩
noncomputable def n182 : PySem.Str := ⟨⟨[97, 95, 109, 97, 120]⟩⟩
noncomputable def n183 : PySem.Str := ⟨⟨[98, 95, 109, 97, 120]⟩⟩
noncomputable def n184 : PySem.Str := ⟨⟨[85, 110, 105, 111, 110, 77, 97, 116, 99, 104, 101, 114, 46, 114, 101, 112, 108, 97, 99, 101]⟩⟩
noncomputable def n185 : PySem.Str := ⟨⟨[85, 110, 105, 111, 110, 77, 97, 116, 99, 104, 101, 114, 46, 105, 115, 95, 97, 99, 116, 105, 118, 101]⟩⟩
noncomputable def n186 : PySem.Str := ⟨⟨[85, 110, 105, 111, 110, 77, 97, 116, 99, 104, 101, 114, 46, 115, 107, 105, 112, 95, 116, 111]⟩⟩
noncomputable def n187 : PySem.Str := ⟨⟨[85, 110, 105, 111, 110, 77, 97, 116, 99, 104, 101, 114, 46, 105, 100]⟩⟩
noncomputable def n188 : PySem.Str := ⟨⟨[97, 95, 105, 100]⟩⟩
noncomputable def n189 : PySem.Str := ⟨⟨[98, 95, 105, 100]⟩⟩
noncomputable def n190 : PySem.Str := ⟨⟨[97, 114]⟩⟩
noncomputable def n191 : PySem.Str := ⟨⟨[98, 114]⟩⟩
noncomputable def n192 : PySem.Str := ⟨⟨[85, 110, 105, 111, 110, 77, 97, 116, 99, 104, 101, 114, 46, 110, 101, 120, 116]⟩⟩
noncomputable def n193 : PySem.Str := ⟨⟨[105, 100, 95, 97]⟩⟩
noncomputable def n194 : PySem.Str := ⟨⟨[105, 100, 95, 98]⟩⟩
noncomputable def n195 : PySem.Str := ⟨⟨[85, 110, 105, 111, 110, 77, 97, 116, 99, 104, 101, 114, 46, 119, 101, 105, 103, 104, 116]⟩⟩
noncomputable def n196 : PySem.Str := ⟨⟨[85, 110, 105, 111, 110, 77, 97, 116, 99, 104, 101, 114, 46, 115, 99, 111, 114, 101]⟩⟩
noncomputable def n197 : PySem.Str := ⟨⟨[85, 110, 105, 111, 110, 77, 97, 116, 99, 104, 101, 114, 46, 115, 107, 105, 112, 95, 116, 111, 95, 113, 117, 97, 108, 105, 116, 121]⟩⟩
noncomputable def n198 : PySem.Str := ⟨⟨[73, 110, 116, 101, 114, 115, 101, 99, 116, 105, 111, 110, 77, 97, 116, 99, 104, 101, 114]⟩⟩
noncomputable def n199 : PySem.Str := ⟨⟨[95, 102, 105, 110, 100, 95, 102, 105, 114, 115, 116]⟩⟩
noncomputable def n200 : PySem.Str := ⟨⟨[95, 102, 105, 110, 100, 95, 110, 101, 120, 116]⟩⟩
noncomputable def n201 : PySem.Str := ⟨⟨[95, 95, 99, 108, 97, 115, 115, 99, 101, 108, 108, 95, 95]⟩⟩
noncomputable def n202 : PySem.Str := ⟨⟨[95, 95, 99, 108, 97, 115, 115, 95, 95]⟩⟩
noncomputable def n203 : PySem.Str := ⟨⟨[73, 110, 116, 101, 114, 115, 101, 99, 116, 105, 111, 110, 77, 97, 116, 99, 104, 101, 114, 46, 95, 95, 105, 110, 105, 116, 95, 95]⟩⟩
noncomputable def n204 : PySem.Str := ⟨⟨[73, 110, 116, 101, 114, 115, 101, 99, 116, 105, 111, 110, 77, 97, 116, 99, 104, 101, 114, 46, 114, 101, 115, 101, 116]⟩⟩
noncomputable def n205 : PySem.Str := ⟨⟨[73, 110, 116, 101, 114, 115, 101, 99, 116, 105, 111, 110, 77, 97, 116, 99, 104, 101, 114, 46, 95, 102, 105, 110, 100, 95, 102, 105, 114, 115, 116]⟩⟩
noncomputable def n206 : PySem.Str := ⟨⟨[97, 95, 109, 105, 110]⟩⟩
noncomputable def n207 : PySem.Str := ⟨⟨[98, 95, 109, 105, 110]⟩⟩
noncomputable def n208 : PySem.Str := ⟨⟨[73, 110, 116, 101, 114, 115, 101, 99, 116, 105, 111, 110, 77, 97, 116, 99, 104, 101, 114, 46, 114, 101, 112, 108, 97, 99, 101]⟩⟩
noncomputable def n209 : PySem.Str := ⟨⟨[73, 110, 116, 101, 114, 115, 101, 99, 116, 105, 111, 110, 77, 97, 116, 99, 104, 101, 114, 46, 105, 115, 95, 97, 99, 116, 105, 118, 101]⟩⟩
noncomputable def n210 : PySem.Str := ⟨⟨[73, 110, 116, 101, 114, 115, 101, 99, 116, 105, 111, 110, 77, 97, 116, 99, 104, 101, 114, 46, 95, 102, 105, 110, 100, 95, 110, 101, 120, 116]⟩⟩
noncomputable def n211 : PySem.Str := ⟨⟨[73, 110, 116, 101, 114, 115, 101, 99, 116, 105, 111, 110, 77, 97, 116, 99, 104, 101, 114, 46, 105, 100]⟩⟩
noncomputable def n212 : PySem.Str := ⟨⟨[73, 110, 116, 101, 114, 115, 101, 99, 116, 105, 111, 110, 77, 97, 116, 99, 104, 101, 114, 46, 97, 108, 108, 95, 105, 100, 115]⟩⟩
noncomputable def n213 : PySem.Str := ⟨⟨[114, 110]⟩⟩
noncomputable def n214 : PySem.Str := ⟨⟨[73, 110, 116, 101, 114, 115, 101, 99, 116, 105, 111, 110, 77, 97, 116, 99, 104, 101, 114, 46, 115, 107, 105, 112, 95, 116, 111]⟩⟩
noncomputable def n215 : PySem.Str := ⟨⟨[73, 110, 116, 101, 114, 115, 101, 99, 116, 105, 111, 110, 77, 97, 116, 99, 104, 101, 114, 46, 115, 107, 105, 112, 95, 116, 111, 95, 113, 117, 97, 108, 105, 116, 121]⟩⟩
noncomputable def n216 : PySem.Str := ⟨⟨[110, 114]⟩⟩
noncomputable def n217 : PySem.Str := ⟨⟨[73, 110, 116, 101, 114, 115, 101, 99, 116, 105, 111, 110, 77, 97, 116, 99, 104, 101, 114, 46, 110, 101, 120, 116]⟩⟩
noncomputable def n218 : PySem.Str := ⟨⟨[65, 110, 100, 78, 111, 116, 77, 97, 116, 99, 104, 101, 114]⟩⟩
noncomputable def n219 : PySem.Str := ⟨⟨[65, 110, 100, 78, 111, 116, 77, 97, 116, 99, 104, 101, 114, 46, 95, 95, 105, 110, 105, 116, 95, 95]⟩⟩
noncomputable def n220 : PySem.Str := ⟨⟨[65, 110, 100, 78, 111, 116, 77, 97, 116, 99, 104, 101, 114, 46, 114, 101, 115, 101, 116]⟩⟩
noncomputable def n221 : PySem.Str := ⟨⟨[65, 110, 100, 78, 111, 116, 77, 97, 116, 99, 104, 101, 114, 46, 95, 102, 105, 110, 100, 95, 102, 105, 114, 115, 116]⟩⟩
noncomputable def n222 : PySem.Str := ⟨⟨[65, 110, 100, 78, 111, 116, 77, 97, 116, 99, 104, 101, 114, 46, 105, 115, 95, 97, 99, 116, 105, 118, 101]⟩⟩
noncomputable def n223 : PySem.Str := ⟨⟨[112, 111, 115]⟩⟩
noncomputable def n224 : PySem.Str := ⟨⟨[110, 101, 103]⟩⟩
noncomputable def n225 : PySem.Str := ⟨⟨[112, 111, 115, 95, 105, 100]⟩⟩
noncomputable def n226 : PySem.Str := ⟨⟨[65, 110, 100, 78, 111, 116, 77, 97, 116, 99, 104, 101, 114, 46, 95, 102, 105, 110, 100, 95, 110, 101, 120, 116]⟩⟩
noncomputable def n227 : PySem.Str := ⟨⟨[65, 110, 100, 78, 111, 116, 77, 97, 116, 99, 104, 101, 114, 46, 115, 117, 112, 112, 111, 114, 116, 115, 95, 98, 108, 111, 99, 107, 95, 113, 117, 97, 108, 105, 116, 121]⟩⟩
noncomputable def n228 : PySem.Str := ⟨⟨[65, 110, 100, 78, 111, 116, 77, 97, 116, 99, 104, 101, 114, 46, 114, 101, 112, 108, 97, 99, 101]⟩⟩
noncomputable def n229 : PySem.Str := ⟨⟨[65, 110, 100, 78, 111, 116, 77, 97, 116, 99, 104, 101, 114, 46, 109, 97, 120, 95, 113, 117, 97, 108, 105, 116, 121]⟩⟩
noncomputable def n230 : PySem.Str := ⟨⟨[65, 110, 100, 78, 111, 116, 77, 97, 116, 99, 104, 101, 114, 46, 98, 108, 111, 99, 107, 95, 113, 117, 97, 108, 105, 116, 121]⟩⟩
noncomputable def n231 : PySem.Str := ⟨⟨[65, 110, 100, 78, 111, 116, 77, 97, 116, 99, 104, 101, 114, 46, 115, 107, 105, 112, 95, 116, 111, 95, 113, 117, 97, 108, 105, 116, 121]⟩⟩
noncomputable def n232 : PySem.Str := ⟨⟨[65, 110, 100, 78, 111, 116, 77, 97, 116, 99, 104, 101, 114, 46, 105, 100]⟩⟩
noncomputable def n233 : PySem.Str := ⟨⟨[65, 110, 100, 78, 111, 116, 77, 97, 116, 99, 104, 101, 114, 46, 110, 101, 120, 116]⟩⟩
noncomputable def n234 : PySem.Str := ⟨⟨[65, 110, 100, 78, 111, 116, 77, 97, 116, 99, 104, 101, 114, 46, 115, 107, 105, 112, 95, 116, 111]⟩⟩
noncomputable def n235 : PySem.Str := ⟨⟨[65, 110, 100, 78, 111, 116, 77, 97, 116, 99, 104, 101, 114, 46, 119, 101, 105, 103, 104, 116]⟩⟩
noncomputable def n236 : PySem.Str := ⟨⟨[65, 110, 100, 78, 111, 116, 77, 97, 116, 99, 104, 101, 114, 46, 115, 99, 111, 114, 101]⟩⟩
noncomputable def n237 : PySem.Str := ⟨⟨[65, 110, 100, 78, 111, 116, 77, 97, 116, 99, 104, 101, 114, 46, 118, 97, 108, 117, 101]⟩⟩
noncomputable def n238 : PySem.Str := ⟨⟨[65, 110, 100, 77, 97, 121, 98, 101, 77, 97, 116, 99, 104, 101, 114]⟩⟩
noncomputable def n239 : PySem.Str := ⟨⟨[95, 102, 105, 114, 115, 116, 95, 98]⟩⟩
noncomputable def n240 : PySem.Str := ⟨⟨[65, 110, 100, 77, 97, 121, 98, 101, 77, 97, 116, 99, 104, 101, 114, 46, 95, 95, 105, 110, 105, 116, 95, 95]⟩⟩
noncomputable def n241 : PySem.Str := ⟨⟨[65, 110, 100, 77, 97, 121, 98, 101, 77, 97, 116, 99, 104, 101, 114, 46, 114, 101, 115, 101, 116]⟩⟩
noncomputable def n242 : PySem.Str := ⟨⟨[65, 110, 100, 77, 97, 121, 98, 101, 77, 97, 116, 99, 104, 101, 114, 46, 95, 102, 105, 114, 115, 116, 95, 98]⟩⟩
noncomputable def n243 : PySem.Str := ⟨⟨[65, 110, 100, 77, 97, 121, 98, 101, 77, 97, 116, 99, 104, 101, 114, 46, 105, 115, 95, 97, 99, 116, 105, 118, 101]⟩⟩
noncomputable def n244 : PySem.Str := ⟨⟨[65, 110, 100, 77, 97, 121, 98, 101, 77, 97, 116, 99, 104, 101, 114, 46, 105, 100]⟩⟩
noncomputable def n245 : PySem.Str := ⟨⟨[65, 110, 100, 77, 97, 121, 98, 101, 77, 97, 116, 99, 104, 101, 114, 46, 110, 101, 120, 116]⟩⟩
noncomputable def n246 : PySem.Str := ⟨⟨[65, 110, 100, 77, 97, 121, 98, 101, 77, 97, 116, 99, 104, 101, 114, 46, 115, 107, 105, 112, 95, 116, 111]⟩⟩
noncomputable def n247 : PySem.Str := ⟨⟨[110, 101, 119, 95, 97]⟩⟩
noncomputable def n248 : PySem.Str := ⟨⟨[110, 101, 119, 95, 98]⟩⟩
noncomputable def n249 : PySem.Str := ⟨⟨[65, 110, 100, 77, 97, 121, 98, 101, 77, 97, 116, 99, 104, 101, 114, 46, 114, 101, 112, 108, 97, 99, 101]⟩⟩
noncomputable def n250 : PySem.Str := ⟨⟨[65, 110, 100, 77, 97, 121, 98, 101, 77, 97, 116, 99, 104, 101, 114, 46, 115, 107, 105, 112, 95, 116, 111, 95, 113, 117, 97, 108, 105, 116, 121]⟩⟩
noncomputable def n251 : PySem.Str := ⟨⟨[65, 110, 100, 77, 97, 121, 98, 101, 77, 97, 116, 99, 104, 101, 114, 46, 119, 101, 105, 103, 104, 116]⟩⟩
noncomputable def n252 : PySem.Str := ⟨⟨[65, 110, 100, 77, 97, 121, 98, 101, 77, 97, 116, 99, 104, 101, 114, 46, 115, 99, 111, 114, 101]⟩⟩
noncomputable def n253 : PySem.Str := ⟨⟨[65, 110, 100, 77, 97, 121, 98, 101, 77, 97, 116, 99, 104, 101, 114, 46, 118, 97, 108, 117, 101]⟩⟩
noncomputable def n254 : PySem.Str := ⟨⟨[119, 104, 111, 111, 115, 104, 46, 115, 99, 111, 114, 105, 110, 103]⟩⟩
noncomputable def n255 : PySem.Str := ⟨⟨[66, 97, 115, 101, 83, 99, 111, 114, 101, 114]⟩⟩
noncomputable def n256 : PySem.Str := ⟨⟨[66, 97, 115, 101, 83, 99, 111, 114, 101, 114, 46, 115, 117, 112, 112, 111, 114, 116, 115, 95, 98, 108, 111, 99, 107, 95, 113, 117, 97, 108, 105, 116, 121]⟩⟩
noncomputable def n257 : PySem.Str := ⟨⟨[109, 97, 116, 99, 104, 101, 114]⟩⟩
noncomputable def n258 : PySem.Str := ⟨⟨[66, 97, 115, 101, 83, 99, 111, 114, 101, 114, 46, 115, 99, 111, 114, 101]⟩⟩
noncomputable def n259 : PySem.Str := ⟨⟨[66, 97, 115, 101, 83, 99, 111, 114, 101, 114, 46, 109, 97, 120, 95, 113, 117, 97, 108, 105, 116, 121]⟩⟩
noncomputable def n260 : PySem.Str := ⟨⟨[66, 97, 115, 101, 83, 99, 111, 114, 101, 114, 46, 98, 108, 111, 99, 107, 95, 113, 117, 97, 108, 105, 116, 121]⟩⟩
noncomputable def n261 : PySem.Str := ⟨⟨[87, 101, 105, 103, 104, 116, 83, 99, 111, 114, 101, 114]⟩⟩
noncomputable def n262 : PySem.Str := ⟨⟨[109, 97, 120, 119, 101, 105, 103, 104, 116]⟩⟩
noncomputable def n263 : PySem.Str := ⟨⟨[87, 101, 105, 103, 104, 116, 83, 99, 111, 114, 101, 114, 46, 95, 95, 105, 110, 105, 116, 95, 95]⟩⟩
noncomputable def n264 : PySem.Str := ⟨⟨[87, 101, 105, 103, 104, 116, 83, 99, 111, 114, 101, 114, 46, 115, 117, 112, 112, 111, 114, 116, 115, 95, 98, 108, 111, 99, 107, 95, 113, 117, 97, 108, 105, 116, 121]⟩⟩
noncomputable def n265 : PySem.Str := ⟨⟨[87, 101, 105, 103, 104, 116, 83, 99, 111, 114, 101, 114, 46, 115, 99, 111, 114, 101]⟩⟩
noncomputable def n266 : PySem.Str := ⟨⟨[87, 101, 105, 103, 104, 116, 83, 99, 111, 114, 101, 114, 46, 109, 97, 120, 95, 113, 117, 97, 108, 105, 116, 121]⟩⟩
noncomputable def n267 : PySem.Str := ⟨⟨[87, 101, 105, 103, 104, 116, 83, 99, 111, 114, 101, 114, 46, 98, 108, 111, 99, 107, 95, 113, 117, 97, 108, 105, 116, 121]⟩⟩
noncomputable def n268 : PySem.Str := ⟨⟨[95, 109, 97, 120, 119, 101, 105, 103, 104, 116]⟩⟩
noncomputable def n269 : PySem.Str := ⟨⟨[108, 97, 119, 95, 97, 104, 48, 48, 52, 57, 95, 48, 49]⟩⟩
noncomputable def n270 : PySem.Str := ⟨⟨[95, 108, 97, 119, 95, 116, 101, 120, 116]⟩⟩
noncomputable def n271 : PySem.Str := ⟨⟨[110, 117, 109, 98, 101, 114]⟩⟩
noncomputable def n272 : PySem.Str := ⟨⟨[119, 111, 114, 100, 115]⟩⟩
noncomputable def n273 : PySem.Str := ⟨⟨[116, 117, 114, 110]⟩⟩
noncomputable def n274 : PySem.Str := ⟨⟨[112, 105, 99, 107]⟩⟩
noncomputable def n275 : PySem.Str := ⟨⟨[95, 108, 97, 119, 95, 112, 97, 114, 116]⟩⟩
noncomputable def n276 : PySem.Str := ⟨⟨[95, 108, 97, 119, 95, 102, 105, 116, 115]⟩⟩
noncomputable def n277 : PySem.Str := ⟨⟨[112, 97, 114, 116]⟩⟩
noncomputable def n278 : PySem.Str := ⟨⟨[119, 111, 114, 100]⟩⟩
noncomputable def n279 : PySem.Str := ⟨⟨[95, 108, 97, 119, 95, 119, 101, 105, 103, 104, 116]⟩⟩
noncomputable def n280 : PySem.Str := ⟨⟨[116, 101, 120, 116]⟩⟩
noncomputable def n281 : PySem.Str := ⟨⟨[112, 108, 97, 99, 101]⟩⟩
noncomputable def n282 : PySem.Str := ⟨⟨[95, 108, 97, 119, 95, 119, 97, 121, 115]⟩⟩
noncomputable def n283 : PySem.Str := ⟨⟨[112, 97, 114, 116, 115]⟩⟩
noncomputable def n284 : PySem.Str := ⟨⟨[114, 111, 119, 115]⟩⟩
noncomputable def n285 : PySem.Str := ⟨⟨[103, 97, 112]⟩⟩
noncomputable def n286 : PySem.Str := ⟨⟨[114, 111, 119]⟩⟩
noncomputable def n287 : PySem.Str := ⟨⟨[95, 108, 97, 119, 95, 115, 117, 109]⟩⟩
noncomputable def n288 : PySem.Str := ⟨⟨[116, 111, 116, 97, 108]⟩⟩
noncomputable def n289 : PySem.Str := ⟨⟨[112, 97, 115, 116]⟩⟩
noncomputable def n290 : PySem.Str := ⟨⟨[115, 105, 122, 101]⟩⟩
noncomputable def n291 : PySem.Str := ⟨⟨[95, 108, 97, 119, 95, 108, 105, 115, 116]⟩⟩
noncomputable def n292 : PySem.Str := ⟨⟨[95, 108, 97, 119, 95, 104, 101, 114, 101]⟩⟩
noncomputable def n293 : PySem.Str := ⟨⟨[95, 108, 97, 119, 95, 116, 114, 101, 101]⟩⟩
noncomputable def n294 : PySem.Str := ⟨⟨[116, 101, 120, 116, 115]⟩⟩
noncomputable def n295 : PySem.Str := ⟨⟨[104, 101, 114, 101]⟩⟩
noncomputable def n296 : PySem.Str := ⟨⟨[114, 101, 115, 116]⟩⟩
noncomputable def n297 : PySem.Str := ⟨⟨[119, 97, 121]⟩⟩
noncomputable def n298 : PySem.Str := ⟨⟨[108, 97, 119]⟩⟩
noncomputable def t1 (p : Program) (P : Params) : BT := insAll (setAll (tBoot P) []) 11 [
  oT [],
  oF [],
  oC [.str n0 182, .str n0 183, .str n1 184, .int 1 0, .int 0 0, .int 0 0, .int 0 0, .int 0 0, .ref 11, .bool false, .int 181 0, .ref 12, .none, .none, .none, .none, .int 185 0, .int 1 0, .str n1 186],
  ⟨.type y0, none, .plain, ⟨[(some (.ref 13)), (some (.ref 3)), (some (.ref 3)), none, (some (.str n2 164)), none, (some (.ref 0))]⟩⟩]
noncomputable def t3 (p : Program) (P : Params) : BT := insAll (setAll (t1 p P) [(3, oD P (.type y2) [(n3, 165, .str n2 164), (n4, 166, .none), (n5, 167, .none), (n6, 168, .builtin y1), (n7, 169, .none), (n8, 170, .ref 6), (n9, 171, .ref 4), (n10, 173, .str n1 172), (n11, 174, .none), (n12, 193, .ref 21)] 10), (12, oF [.int 1 0, .int 0 0, .ref 20])]) 15 [
  oT [],
  oF [],
  oT [.str n13 190],
  oT [],
  oQ (stOf p 0) n12,
  oC [.str n12 187, .str n12 188, .str n1 189, .int 1 0, .int 1 0, .int 0 0, .int 0 0, .int 3 0, .ref 15, .bool true, .int 181 0, .ref 16, .none, .ref 17, .ref 18, .ref 19, .int 191 0, .int 1 0, .str n1 192],
  oU (stOf p 0) n12 [] .none (.str n2 164) (.ref 20) .none]
noncomputable def t4 (p : Program) (P : Params) : BT := insAll (setAll (t3 p P) [(3, oD P (.type y2) [(n3, 165, .str n14 194), (n4, 166, .none), (n5, 167, .none), (n6, 168, .builtin y1), (n7, 169, .none), (n8, 170, .ref 6), (n9, 171, .ref 4), (n10, 173, .str n1 172), (n11, 174, .none), (n12, 193, .ref 21)] 10)]) 22 []
noncomputable def t5 (p : Program) (P : Params) : BT := insAll (setAll (t4 p P) [(2, oD P .none [(n15, 212, .int 31 0), (n16, 213, .int 1 0)] 2), (3, oD P (.type y2) [(n3, 165, .str n14 194), (n4, 166, .none), (n5, 167, .none), (n6, 168, .builtin y1), (n7, 169, .none), (n8, 170, .ref 6), (n9, 171, .ref 4), (n10, 173, .str n1 172), (n11, 174, .none), (n12, 193, .ref 21), (n17, 215, .ref 31)] 11), (12, oF [.int 1 0, .int 0 0, .ref 20, .int 5 0, .int 0 0, .ref 27])]) 22 [
  oT [.type y3],
  ⟨.type y4, none, .fields ⟨[.builtin y5, .type y6]⟩, ⟨[]⟩⟩,
  oD P (.type y2) [(n18, 203, .str n14 194), (n19, 205, .str n17 204), (n20, 207, .int 5 206), (n21, 208, .ref 29)] 4,
  oT [],
  oF [],
  oC [.str n17 198, .str n17 199, .str n1 200, .int 5 0, .int 0 0, .int 0 0, .int 0 0, .int 0 0, .ref 25, .bool false, .int 181 0, .ref 26, .none, .none, .none, .none, .int 201 0, .int 5 0, .str n1 202],
  ⟨.type y0, none, .plain, ⟨[(some (.ref 27)), (some (.ref 3)), (some (.ref 24)), none, (some (.str n14 194)), none, (some (.ref 0))]⟩⟩,
  oT [],
  oD P (.type y2) [(n18, 203, .str n14 194), (n20, 207, .int 5 206), (n21, 208, .ref 29), (n22, 210, .ref 32), (n4, 211, .none)] 3,
  ⟨.type y6, none, .cls { name := n17, bases := [.type y3], mro := [.ref 31, .type y3, .type y7, .type y8], ns := 30, qualname := n17, hasDict := true, slotNames := [], subclasses := [], abstract := false, collection := none, hasDel := false }, ⟨[(some (.ref 22)), none, (some (.str n17 196)), (some (.str n17 204)), (some (.builtin y9)), (some (.bool true))]⟩⟩,
  ⟨.type y10, none, .fields ⟨[.str n22 209, .ref 31, .builtin y11, .none]⟩, ⟨[]⟩⟩,
  ⟨.type y12, none, .fields ⟨[.ref 31, .ref 31, .ref 31]⟩, ⟨[]⟩⟩,
  ⟨.type y4, none, .fields ⟨[.builtin y13, .ref 31]⟩, ⟨[]⟩⟩]
noncomputable def t6 (p : Program) (P : Params) : BT := insAll (setAll (t5 p P) [(2, oD P .none [(n15, 212, .int 31 0), (n16, 213, .int 2 0), (n23, 232, .int 44 0)] 3), (3, oD P (.type y2) [(n3, 165, .str n14 194), (n4, 166, .none), (n5, 167, .none), (n6, 168, .builtin y1), (n7, 169, .none), (n8, 170, .ref 6), (n9, 171, .ref 4), (n10, 173, .str n1 172), (n11, 174, .none), (n12, 193, .ref 21), (n17, 215, .ref 31), (n24, 235, .ref 44)] 12), (12, oF [.int 1 0, .int 0 0, .ref 20, .int 5 0, .int 0 0, .ref 27, .int 7 0, .int 0 0, .ref 40])]) 35 [
  oT [.type y3],
  ⟨.type y4, none, .fields ⟨[.builtin y5, .type y6]⟩, ⟨[]⟩⟩,
  oD P (.type y2) [(n18, 223, .str n14 194), (n19, 225, .str n24 224), (n20, 227, .int 7 226), (n21, 228, .ref 42)] 4,
  oT [],
  oF [],
  oC [.str n24 218, .str n24 219, .str n1 220, .int 7 0, .int 0 0, .int 0 0, .int 0 0, .int 0 0, .ref 38, .bool false, .int 181 0, .ref 39, .none, .none, .none, .none, .int 221 0, .int 7 0, .str n1 222],
  ⟨.type y0, none, .plain, ⟨[(some (.ref 40)), (some (.ref 3)), (some (.ref 37)), none, (some (.str n14 194)), none, (some (.ref 0))]⟩⟩,
  oT [],
  oD P (.type y2) [(n18, 223, .str n14 194), (n20, 227, .int 7 226), (n21, 228, .ref 42), (n22, 230, .ref 45), (n4, 231, .none)] 3,
  ⟨.type y6, none, .cls { name := n24, bases := [.type y3], mro := [.ref 44, .type y3, .type y7, .type y8], ns := 43, qualname := n24, hasDict := true, slotNames := [], subclasses := [], abstract := false, collection := none, hasDel := false }, ⟨[(some (.ref 35)), none, (some (.str n24 216)), (some (.str n24 224)), (some (.builtin y9)), (some (.bool true))]⟩⟩,
  ⟨.type y10, none, .fields ⟨[.str n22 229, .ref 44, .builtin y11, .none]⟩, ⟨[]⟩⟩,
  ⟨.type y12, none, .fields ⟨[.ref 44, .ref 44, .ref 44]⟩, ⟨[]⟩⟩,
  ⟨.type y4, none, .fields ⟨[.builtin y13, .ref 44]⟩, ⟨[]⟩⟩]
noncomputable def t7 (p : Program) (P : Params) : BT := insAll (setAll (t6 p P) [(3, oD P (.type y2) [(n3, 165, .str n14 194), (n4, 166, .none), (n5, 167, .none), (n6, 168, .builtin y1), (n7, 169, .none), (n8, 170, .ref 6), (n9, 171, .ref 4), (n10, 173, .str n1 172), (n11, 174, .none), (n12, 193, .ref 21), (n17, 215, .ref 31), (n24, 235, .ref 44), (n25, 407, .ref 206)] 13), (12, oF [.int 1 0, .int 0 0, .ref 20, .int 5 0, .int 0 0, .ref 27, .int 7 0, .int 0 0, .ref 40, .int 9 0, .int 0 0, .ref 53])]) 48 [
  oT [.type y8],
  ⟨.type y4, none, .fields ⟨[.builtin y5, .type y6]⟩, ⟨[]⟩⟩,
  oD P (.type y2) [(n18, 243, .str n14 194), (n19, 245, .str n25 244), (n20, 247, .int 9 246), (n26, 254, .ref 61), (n27, 261, .ref 68), (n28, 268, .ref 75), (n29, 275, .ref 82), (n30, 283, .ref 90), (n31, 290, .ref 97), (n32, 297, .ref 104), (n33, 306, .ref 112), (n34, 313, .ref 119), (n35, 320, .ref 126), (n36, 327, .ref 133), (n37, 334, .ref 140), (n38, 341, .ref 147), (n39, 348, .ref 154), (n40, 355, .ref 161), (n41, 362, .ref 168), (n42, 369, .ref 175), (n43, 377, .ref 182), (n44, 385, .ref 189), (n45, 392, .ref 196), (n46, 399, .ref 203), (n21, 400, .ref 204)] 25,
  oT [],
  oF [.int 11 0, .int 4 0, .ref 60, .int 14 0, .int 4 0, .ref 67, .int 17 0, .int 4 0, .ref 74, .int 20 0, .int 4 0, .ref 81, .int 23 0, .int 4 0, .ref 89, .int 26 0, .int 4 0, .ref 96, .int 29 0, .int 4 0, .ref 103, .int 32 0, .int 4 0, .ref 111, .int 35 0, .int 4 0, .ref 118, .int 38 0, .int 4 0, .ref 125, .int 41 0, .int 4 0, .ref 132, .int 44 0, .int 4 0, .ref 139, .int 47 0, .int 4 0, .ref 146, .int 50 0, .int 4 0, .ref 153, .int 53 0, .int 4 0, .ref 160, .int 56 0, .int 4 0, .ref 167, .int 59 0, .int 4 0, .ref 174, .int 62 0, .int 4 0, .ref 181, .int 66 0, .int 4 0, .ref 188, .int 69 0, .int 4 0, .ref 195, .int 72 0, .int 4 0, .ref 202],
  oC [.str n25 238, .str n25 239, .str n1 240, .int 9 0, .int 0 0, .int 0 0, .int 0 0, .int 0 0, .ref 51, .bool false, .int 181 0, .ref 52, .none, .none, .none, .none, .int 241 0, .int 9 0, .str n1 242],
  ⟨.type y0, none, .plain, ⟨[(some (.ref 53)), (some (.ref 3)), (some (.ref 50)), none, (some (.str n14 194)), none, (some (.ref 0))]⟩⟩,
  oT [],
  oF [],
  oT [.str n47 251],
  oT [],
  oQ (subOf p 4 0) n48,
  oC [.str n26 248, .str n48 249, .str n1 250, .int 11 0, .int 1 0, .int 0 0, .int 0 0, .int 3 0, .ref 55, .bool true, .int 181 0, .ref 56, .none, .ref 57, .ref 58, .ref 59, .int 252 0, .int 11 0, .str n1 253],
  oU (subOf p 4 0) n48 [] .none (.str n14 194) (.ref 60) .none,
  oT [],
  oF [],
  oT [.str n47 258],
  oT [],
  oQ (subOf p 4 1) n49,
  oC [.str n27 255, .str n49 256, .str n1 257, .int 14 0, .int 1 0, .int 0 0, .int 0 0, .int 3 0, .ref 62, .bool true, .int 181 0, .ref 63, .none, .ref 64, .ref 65, .ref 66, .int 259 0, .int 14 0, .str n1 260],
  oU (subOf p 4 1) n49 [] .none (.str n14 194) (.ref 67) .none,
  oT [],
  oF [],
  oT [.str n47 265],
  oT [],
  oQ (subOf p 4 2) n50,
  oC [.str n28 262, .str n50 263, .str n1 264, .int 17 0, .int 1 0, .int 0 0, .int 0 0, .int 3 0, .ref 69, .bool true, .int 181 0, .ref 70, .none, .ref 71, .ref 72, .ref 73, .int 266 0, .int 17 0, .str n1 267],
  oU (subOf p 4 2) n50 [] .none (.str n14 194) (.ref 74) .none,
  oT [],
  oF [],
  oT [.str n47 272],
  oT [],
  oQ (subOf p 4 3) n51,
  oC [.str n29 269, .str n51 270, .str n1 271, .int 20 0, .int 1 0, .int 0 0, .int 0 0, .int 3 0, .ref 76, .bool true, .int 181 0, .ref 77, .none, .ref 78, .ref 79, .ref 80, .int 273 0, .int 20 0, .str n1 274],
  oU (subOf p 4 3) n51 [] .none (.str n14 194) (.ref 81) .none,
  oT [.none],
  oT [],
  oF [],
  oT [.str n47 279, .str n39 280],
  oT [],
  oQ (subOf p 4 4) n52,
  oC [.str n30 276, .str n52 277, .str n1 278, .int 23 0, .int 2 0, .int 0 0, .int 0 0, .int 3 0, .ref 84, .bool true, .int 181 0, .ref 85, .none, .ref 86, .ref 87, .ref 88, .int 281 0, .int 23 0, .str n1 282],
  oU (subOf p 4 4) n52 [] (.ref 83) (.str n14 194) (.ref 89) .none,
  oT [],
  oF [],
  oT [.str n47 287],
  oT [],
  oQ (subOf p 4 5) n53,
  oC [.str n31 284, .str n53 285, .str n1 286, .int 26 0, .int 1 0, .int 0 0, .int 0 0, .int 3 0, .ref 91, .bool true, .int 181 0, .ref 92, .none, .ref 93, .ref 94, .ref 95, .int 288 0, .int 26 0, .str n1 289],
  oU (subOf p 4 5) n53 [] .none (.str n14 194) (.ref 96) .none,
  oT [],
  oF [],
  oT [.str n47 294],
  oT [],
  oQ (subOf p 4 6) n54,
  oC [.str n32 291, .str n54 292, .str n1 293, .int 29 0, .int 1 0, .int 0 0, .int 0 0, .int 3 0, .ref 98, .bool true, .int 181 0, .ref 99, .none, .ref 100, .ref 101, .ref 102, .int 295 0, .int 29 0, .str n1 296],
  oU (subOf p 4 6) n54 [] .none (.str n14 194) (.ref 103) .none,
  oT [.int 0 298],
  oT [],
  oF [],
  oT [.str n47 302, .str n55 303],
  oT [],
  oQ (subOf p 4 7) n56,
  oC [.str n33 299, .str n56 300, .str n1 301, .int 32 0, .int 2 0, .int 0 0, .int 0 0, .int 3 0, .ref 106, .bool true, .int 181 0, .ref 107, .none, .ref 108, .ref 109, .ref 110, .int 304 0, .int 32 0, .str n1 305],
  oU (subOf p 4 7) n56 [] (.ref 105) (.str n14 194) (.ref 111) .none,
  oT [],
  oF [],
  oT [.str n47 310],
  oT [],
  oQ (subOf p 4 8) n57,
  oC [.str n34 307, .str n57 308, .str n1 309, .int 35 0, .int 1 0, .int 0 0, .int 0 0, .int 3 0, .ref 113, .bool true, .int 181 0, .ref 114, .none, .ref 115, .ref 116, .ref 117, .int 311 0, .int 35 0, .str n1 312],
  oU (subOf p 4 8) n57 [] .none (.str n14 194) (.ref 118) .none,
  oT [],
  oF [],
  oT [.str n47 317],
  oT [],
  oQ (subOf p 4 9) n58,
  oC [.str n35 314, .str n58 315, .str n1 316, .int 38 0, .int 1 0, .int 0 0, .int 0 0, .int 3 0, .ref 120, .bool true, .int 181 0, .ref 121, .none, .ref 122, .ref 123, .ref 124, .int 318 0, .int 38 0, .str n1 319],
  oU (subOf p 4 9) n58 [] .none (.str n14 194) (.ref 125) .none,
  oT [],
  oF [],
  oT [.str n47 324],
  oT [],
  oQ (subOf p 4 10) n59,
  oC [.str n36 321, .str n59 322, .str n1 323, .int 41 0, .int 1 0, .int 0 0, .int 0 0, .int 3 0, .ref 127, .bool true, .int 181 0, .ref 128, .none, .ref 129, .ref 130, .ref 131, .int 325 0, .int 41 0, .str n1 326],
  oU (subOf p 4 10) n59 [] .none (.str n14 194) (.ref 132) .none,
  oT [],
  oF [],
  oT [.str n47 331],
  oT [],
  oQ (subOf p 4 11) n60,
  oC [.str n37 328, .str n60 329, .str n1 330, .int 44 0, .int 1 0, .int 0 0, .int 0 0, .int 3 0, .ref 134, .bool true, .int 181 0, .ref 135, .none, .ref 136, .ref 137, .ref 138, .int 332 0, .int 44 0, .str n1 333],
  oU (subOf p 4 11) n60 [] .none (.str n14 194) (.ref 139) .none,
  oT [],
  oF [],
  oT [.str n47 338],
  oT [],
  oQ (subOf p 4 12) n61,
  oC [.str n38 335, .str n61 336, .str n1 337, .int 47 0, .int 1 0, .int 0 0, .int 0 0, .int 3 0, .ref 141, .bool true, .int 181 0, .ref 142, .none, .ref 143, .ref 144, .ref 145, .int 339 0, .int 47 0, .str n1 340],
  oU (subOf p 4 12) n61 [] .none (.str n14 194) (.ref 146) .none,
  oT [],
  oF [],
  oT [.str n47 345],
  oT [],
  oQ (subOf p 4 13) n62,
  oC [.str n39 342, .str n62 343, .str n1 344, .int 50 0, .int 1 0, .int 0 0, .int 0 0, .int 3 0, .ref 148, .bool true, .int 181 0, .ref 149, .none, .ref 150, .ref 151, .ref 152, .int 346 0, .int 50 0, .str n1 347],
  oU (subOf p 4 13) n62 [] .none (.str n14 194) (.ref 153) .none,
  oT [],
  oF [],
  oT [.str n47 352],
  oT [],
  oQ (subOf p 4 14) n63,
  oC [.str n40 349, .str n63 350, .str n1 351, .int 53 0, .int 1 0, .int 0 0, .int 0 0, .int 3 0, .ref 155, .bool true, .int 181 0, .ref 156, .none, .ref 157, .ref 158, .ref 159, .int 353 0, .int 53 0, .str n1 354],
  oU (subOf p 4 14) n63 [] .none (.str n14 194) (.ref 160) .none,
  oT [],
  oF [],
  oT [.str n47 359],
  oT [],
  oQ (subOf p 4 15) n64,
  oC [.str n41 356, .str n64 357, .str n1 358, .int 56 0, .int 1 0, .int 0 0, .int 0 0, .int 3 0, .ref 162, .bool true, .int 181 0, .ref 163, .none, .ref 164, .ref 165, .ref 166, .int 360 0, .int 56 0, .str n1 361],
  oU (subOf p 4 15) n64 [] .none (.str n14 194) (.ref 167) .none,
  oT [],
  oF [],
  oT [.str n47 366],
  oT [],
  oQ (subOf p 4 16) n65,
  oC [.str n42 363, .str n65 364, .str n1 365, .int 59 0, .int 1 0, .int 0 0, .int 0 0, .int 3 0, .ref 169, .bool true, .int 181 0, .ref 170, .none, .ref 171, .ref 172, .ref 173, .int 367 0, .int 59 0, .str n1 368],
  oU (subOf p 4 16) n65 [] .none (.str n14 194) (.ref 174) .none,
  oT [],
  oF [],
  oT [.str n47 373, .str n39 374],
  oT [],
  oQ (subOf p 4 17) n66,
  oC [.str n43 370, .str n66 371, .str n1 372, .int 62 0, .int 2 0, .int 0 0, .int 0 0, .int 3 0, .ref 176, .bool true, .int 181 0, .ref 177, .none, .ref 178, .ref 179, .ref 180, .int 375 0, .int 62 0, .str n1 376],
  oU (subOf p 4 17) n66 [] .none (.str n14 194) (.ref 181) .none,
  oT [],
  oF [],
  oT [.str n47 381, .str n55 382],
  oT [],
  oQ (subOf p 4 18) n67,
  oC [.str n44 378, .str n67 379, .str n1 380, .int 66 0, .int 2 0, .int 0 0, .int 0 0, .int 3 0, .ref 183, .bool true, .int 181 0, .ref 184, .none, .ref 185, .ref 186, .ref 187, .int 383 0, .int 66 0, .str n1 384],
  oU (subOf p 4 18) n67 [] .none (.str n14 194) (.ref 188) .none,
  oT [],
  oF [],
  oT [.str n47 389],
  oT [],
  oQ (subOf p 4 19) n68,
  oC [.str n45 386, .str n68 387, .str n1 388, .int 69 0, .int 1 0, .int 0 0, .int 0 0, .int 3 0, .ref 190, .bool true, .int 181 0, .ref 191, .none, .ref 192, .ref 193, .ref 194, .int 390 0, .int 69 0, .str n1 391],
  oU (subOf p 4 19) n68 [] .none (.str n14 194) (.ref 195) .none,
  oT [],
  oF [],
  oT [.str n47 396],
  oT [],
  oQ (subOf p 4 20) n69,
  oC [.str n46 393, .str n69 394, .str n1 395, .int 72 0, .int 1 0, .int 0 0, .int 0 0, .int 3 0, .ref 197, .bool true, .int 181 0, .ref 198, .none, .ref 199, .ref 200, .ref 201, .int 397 0, .int 72 0, .str n1 398],
  oU (subOf p 4 20) n69 [] .none (.str n14 194) (.ref 202) .none,
  oT [],
  oD P (.type y2) [(n18, 243, .str n14 194), (n20, 247, .int 9 246), (n26, 254, .ref 61), (n27, 261, .ref 68), (n28, 268, .ref 75), (n29, 275, .ref 82), (n30, 283, .ref 90), (n31, 290, .ref 97), (n32, 297, .ref 104), (n33, 306, .ref 112), (n34, 313, .ref 119), (n35, 320, .ref 126), (n36, 327, .ref 133), (n37, 334, .ref 140), (n38, 341, .ref 147), (n39, 348, .ref 154), (n40, 355, .ref 161), (n41, 362, .ref 168), (n42, 369, .ref 175), (n43, 377, .ref 182), (n44, 385, .ref 189), (n45, 392, .ref 196), (n46, 399, .ref 203), (n21, 400, .ref 204), (n70, 402, .ref 207), (n22, 404, .ref 208), (n4, 405, .none)] 4,
  ⟨.type y6, none, .cls { name := n25, bases := [.type y8], mro := [.ref 206, .type y8], ns := 205, qualname := n25, hasDict := true, slotNames := [], subclasses := [], abstract := false, collection := none, hasDel := false }, ⟨[(some (.ref 48)), none, (some (.str n25 236)), (some (.str n25 244)), (some (.builtin y14)), (some (.bool true))]⟩⟩,
  ⟨.type y10, none, .fields ⟨[.str n70 401, .ref 206, .builtin y15, .builtin y16]⟩, ⟨[]⟩⟩,
  ⟨.type y10, none, .fields ⟨[.str n22 403, .ref 206, .builtin y11, .none]⟩, ⟨[]⟩⟩,
  ⟨.type y12, none, .fields ⟨[.ref 206, .ref 206, .ref 206]⟩, ⟨[]⟩⟩,
  ⟨.type y4, none, .fields ⟨[.builtin y13, .ref 206]⟩, ⟨[]⟩⟩]
noncomputable def t8 (p : Program) (P : Params) : BT := insAll (setAll (t7 p P) [(3, oD P (.type y2) [(n3, 165, .str n14 194), (n4, 166, .none), (n5, 167, .none), (n6, 168, .builtin y1), (n7, 169, .none), (n8, 170, .ref 6), (n9, 171, .ref 4), (n10, 173, .str n1 172), (n11, 174, .none), (n12, 193, .ref 21), (n17, 215, .ref 31), (n24, 235, .ref 44), (n25, 407, .ref 206), (n71, 494, .ref 290)] 14), (12, oF [.int 1 0, .int 0 0, .ref 20, .int 5 0, .int 0 0, .ref 27, .int 7 0, .int 0 0, .ref 40, .int 9 0, .int 0 0, .ref 53, .int 74 0, .int 0 0, .ref 216]), (206, ⟨.type y6, none, .cls { name := n25, bases := [.type y8], mro := [.ref 206, .type y8], ns := 205, qualname := n25, hasDict := true, slotNames := [], subclasses := [.ref 290], abstract := false, collection := none, hasDel := false }, ⟨[(some (.ref 48)), none, (some (.str n25 236)), (some (.str n25 244)), (some (.builtin y14)), (some (.bool true))]⟩⟩)]) 211 [
  oT [.ref 206],
  ⟨.type y4, none, .fields ⟨[.builtin y5, .type y6]⟩, ⟨[]⟩⟩,
  oD P (.type y2) [(n18, 415, .str n14 194), (n19, 417, .str n71 416), (n20, 419, .int 74 418), (n72, 426, .ref 224), (n73, 433, .ref 231), (n36, 440, .ref 238), (n37, 447, .ref 245), (n38, 454, .ref 252), (n44, 462, .ref 259), (n26, 469, .ref 266), (n27, 476, .ref 273), (n40, 483, .ref 280), (n34, 490, .ref 287), (n21, 491, .ref 288)] 14,
  oT [],
  oF [.int 76 0, .int 4 0, .ref 223, .int 79 0, .int 4 0, .ref 230, .int 82 0, .int 4 0, .ref 237, .int 85 0, .int 4 0, .ref 244, .int 88 0, .int 4 0, .ref 251, .int 91 0, .int 4 0, .ref 258, .int 94 0, .int 4 0, .ref 265, .int 97 0, .int 4 0, .ref 272, .int 100 0, .int 4 0, .ref 279, .int 103 0, .int 4 0, .ref 286],
  oC [.str n71 410, .str n71 411, .str n1 412, .int 74 0, .int 0 0, .int 0 0, .int 0 0, .int 0 0, .ref 214, .bool false, .int 181 0, .ref 215, .none, .none, .none, .none, .int 413 0, .int 74 0, .str n1 414],
  ⟨.type y0, none, .plain, ⟨[(some (.ref 216)), (some (.ref 3)), (some (.ref 213)), none, (some (.str n14 194)), none, (some (.ref 0))]⟩⟩,
  oT [],
  oF [],
  oT [.str n47 423],
  oT [],
  oQ (subOf p 5 0) n74,
  oC [.str n72 420, .str n74 421, .str n1 422, .int 76 0, .int 1 0, .int 0 0, .int 0 0, .int 3 0, .ref 218, .bool true, .int 181 0, .ref 219, .none, .ref 220, .ref 221, .ref 222, .int 424 0, .int 76 0, .str n1 425],
  oU (subOf p 5 0) n74 [] .none (.str n14 194) (.ref 223) .none,
  oT [],
  oF [],
  oT [.str n47 430],
  oT [],
  oQ (subOf p 5 1) n75,
  oC [.str n73 427, .str n75 428, .str n1 429, .int 79 0, .int 1 0, .int 0 0, .int 0 0, .int 3 0, .ref 225, .bool true, .int 181 0, .ref 226, .none, .ref 227, .ref 228, .ref 229, .int 431 0, .int 79 0, .str n1 432],
  oU (subOf p 5 1) n75 [] .none (.str n14 194) (.ref 230) .none,
  oT [],
  oF [],
  oT [.str n47 437],
  oT [],
  oQ (subOf p 5 2) n76,
  oC [.str n36 434, .str n76 435, .str n1 436, .int 82 0, .int 1 0, .int 0 0, .int 0 0, .int 3 0, .ref 232, .bool true, .int 181 0, .ref 233, .none, .ref 234, .ref 235, .ref 236, .int 438 0, .int 82 0, .str n1 439],
  oU (subOf p 5 2) n76 [] .none (.str n14 194) (.ref 237) .none,
  oT [],
  oF [],
  oT [.str n47 444],
  oT [],
  oQ (subOf p 5 3) n77,
  oC [.str n37 441, .str n77 442, .str n1 443, .int 85 0, .int 1 0, .int 0 0, .int 0 0, .int 3 0, .ref 239, .bool true, .int 181 0, .ref 240, .none, .ref 241, .ref 242, .ref 243, .int 445 0, .int 85 0, .str n1 446],
  oU (subOf p 5 3) n77 [] .none (.str n14 194) (.ref 244) .none,
  oT [],
  oF [],
  oT [.str n47 451],
  oT [],
  oQ (subOf p 5 4) n78,
  oC [.str n38 448, .str n78 449, .str n1 450, .int 88 0, .int 1 0, .int 0 0, .int 0 0, .int 3 0, .ref 246, .bool true, .int 181 0, .ref 247, .none, .ref 248, .ref 249, .ref 250, .int 452 0, .int 88 0, .str n1 453],
  oU (subOf p 5 4) n78 [] .none (.str n14 194) (.ref 251) .none,
  oT [],
  oF [],
  oT [.str n47 458, .str n55 459],
  oT [],
  oQ (subOf p 5 5) n79,
  oC [.str n44 455, .str n79 456, .str n1 457, .int 91 0, .int 2 0, .int 0 0, .int 0 0, .int 3 0, .ref 253, .bool true, .int 181 0, .ref 254, .none, .ref 255, .ref 256, .ref 257, .int 460 0, .int 91 0, .str n1 461],
  oU (subOf p 5 5) n79 [] .none (.str n14 194) (.ref 258) .none,
  oT [],
  oF [],
  oT [.str n47 466],
  oT [],
  oQ (subOf p 5 6) n80,
  oC [.str n26 463, .str n80 464, .str n1 465, .int 94 0, .int 1 0, .int 0 0, .int 0 0, .int 3 0, .ref 260, .bool true, .int 181 0, .ref 261, .none, .ref 262, .ref 263, .ref 264, .int 467 0, .int 94 0, .str n1 468],
  oU (subOf p 5 6) n80 [] .none (.str n14 194) (.ref 265) .none,
  oT [],
  oF [],
  oT [.str n47 473],
  oT [],
  oQ (subOf p 5 7) n81,
  oC [.str n27 470, .str n81 471, .str n1 472, .int 97 0, .int 1 0, .int 0 0, .int 0 0, .int 3 0, .ref 267, .bool true, .int 181 0, .ref 268, .none, .ref 269, .ref 270, .ref 271, .int 474 0, .int 97 0, .str n1 475],
  oU (subOf p 5 7) n81 [] .none (.str n14 194) (.ref 272) .none,
  oT [],
  oF [],
  oT [.str n47 480],
  oT [],
  oQ (subOf p 5 8) n82,
  oC [.str n40 477, .str n82 478, .str n1 479, .int 100 0, .int 1 0, .int 0 0, .int 0 0, .int 3 0, .ref 274, .bool true, .int 181 0, .ref 275, .none, .ref 276, .ref 277, .ref 278, .int 481 0, .int 100 0, .str n1 482],
  oU (subOf p 5 8) n82 [] .none (.str n14 194) (.ref 279) .none,
  oT [],
  oF [],
  oT [.str n47 487],
  oT [],
  oQ (subOf p 5 9) n83,
  oC [.str n34 484, .str n83 485, .str n1 486, .int 103 0, .int 1 0, .int 0 0, .int 0 0, .int 3 0, .ref 281, .bool true, .int 181 0, .ref 282, .none, .ref 283, .ref 284, .ref 285, .int 488 0, .int 103 0, .str n1 489],
  oU (subOf p 5 9) n83 [] .none (.str n14 194) (.ref 286) .none,
  oT [],
  oD P (.type y2) [(n18, 415, .str n14 194), (n20, 419, .int 74 418), (n72, 426, .ref 224), (n73, 433, .ref 231), (n36, 440, .ref 238), (n37, 447, .ref 245), (n38, 454, .ref 252), (n44, 462, .ref 259), (n26, 469, .ref 266), (n27, 476, .ref 273), (n40, 483, .ref 280), (n34, 490, .ref 287), (n21, 491, .ref 288), (n4, 492, .none)] 2,
  ⟨.type y6, none, .cls { name := n71, bases := [.ref 206], mro := [.ref 290, .ref 206, .type y8], ns := 289, qualname := n71, hasDict := true, slotNames := [], subclasses := [], abstract := false, collection := none, hasDel := false }, ⟨[(some (.ref 211)), none, (some (.str n71 408)), (some (.str n71 416)), (some (.builtin y14)), (some (.bool true))]⟩⟩,
  ⟨.type y12, none, .fields ⟨[.ref 290, .ref 290, .ref 290]⟩, ⟨[]⟩⟩,
  ⟨.type y4, none, .fields ⟨[.builtin y13, .ref 290]⟩, ⟨[]⟩⟩]
noncomputable def t9 (p : Program) (P : Params) : BT := insAll (setAll (t8 p P) [(3, oD P (.type y2) [(n3, 165, .str n14 194), (n4, 166, .none), (n5, 167, .none), (n6, 168, .builtin y1), (n7, 169, .none), (n8, 170, .ref 6), (n9, 171, .ref 4), (n10, 173, .str n1 172), (n11, 174, .none), (n12, 193, .ref 21), (n17, 215, .ref 31), (n24, 235, .ref 44), (n25, 407, .ref 206), (n71, 494, .ref 290), (n84, 495, .ref 294)] 15)]) 293 [
  oD P (.type y2) [] 0,
  ⟨.ref 290, (some 293), .plain, ⟨[]⟩⟩]
noncomputable def t10 (p : Program) (P : Params) : BT := insAll (setAll (t9 p P) [(3, oD P (.type y2) [(n3, 165, .str n14 194), (n4, 166, .none), (n5, 167, .none), (n6, 168, .builtin y1), (n7, 169, .none), (n8, 170, .ref 6), (n9, 171, .ref 4), (n10, 173, .str n1 172), (n11, 174, .none), (n12, 193, .ref 21), (n17, 215, .ref 31), (n24, 235, .ref 44), (n25, 407, .ref 206), (n71, 494, .ref 290), (n84, 495, .ref 294), (n85, 681, .ref 453)] 16), (12, oF [.int 1 0, .int 0 0, .ref 20, .int 5 0, .int 0 0, .ref 27, .int 7 0, .int 0 0, .ref 40, .int 9 0, .int 0 0, .ref 53, .int 74 0, .int 0 0, .ref 216, .int 106 0, .int 0 0, .ref 300]), (206, ⟨.type y6, none, .cls { name := n25, bases := [.type y8], mro := [.ref 206, .type y8], ns := 205, qualname := n25, hasDict := true, slotNames := [], subclasses := [.ref 290, .ref 453], abstract := false, collection := none, hasDel := false }, ⟨[(some (.ref 48)), none, (some (.str n25 236)), (some (.str n25 244)), (some (.builtin y14)), (some (.bool true))]⟩⟩)]) 295 [
  oT [.ref 206],
  ⟨.type y4, none, .fields ⟨[.builtin y5, .type y6]⟩, ⟨[]⟩⟩,
  oD P (.type y2) [(n18, 503, .str n14 194), (n19, 505, .str n85 504), (n20, 507, .int 106 506), (n86, 524, .ref 309), (n26, 531, .ref 316), (n27, 538, .ref 323), (n43, 546, .ref 330), (n28, 553, .ref 337), (n34, 560, .ref 344), (n33, 569, .ref 352), (n36, 576, .ref 359), (n37, 583, .ref 366), (n38, 590, .ref 373), (n44, 598, .ref 380), (n39, 605, .ref 387), (n40, 612, .ref 394), (n41, 619, .ref 401), (n42, 626, .ref 408), (n45, 633, .ref 415), (n87, 640, .ref 422), (n88, 647, .ref 429), (n89, 654, .ref 436), (n90, 661, .ref 443), (n46, 668, .ref 450), (n21, 678, .ref 451)] 25,
  oT [],
  oF [.int 108 0, .int 4 0, .ref 308, .int 119 0, .int 4 0, .ref 315, .int 122 0, .int 4 0, .ref 322, .int 125 0, .int 4 0, .ref 329, .int 133 0, .int 4 0, .ref 336, .int 136 0, .int 4 0, .ref 343, .int 139 0, .int 4 0, .ref 351, .int 147 0, .int 4 0, .ref 358, .int 150 0, .int 4 0, .ref 365, .int 156 0, .int 4 0, .ref 372, .int 159 0, .int 4 0, .ref 379, .int 162 0, .int 4 0, .ref 386, .int 165 0, .int 4 0, .ref 393, .int 168 0, .int 4 0, .ref 400, .int 171 0, .int 4 0, .ref 407, .int 174 0, .int 4 0, .ref 414, .int 177 0, .int 4 0, .ref 421, .int 185 0, .int 4 0, .ref 428, .int 188 0, .int 4 0, .ref 435, .int 191 0, .int 4 0, .ref 442, .int 201 0, .int 4 0, .ref 449],
  oC [.str n85 498, .str n85 499, .str n1 500, .int 106 0, .int 0 0, .int 0 0, .int 0 0, .int 0 0, .ref 298, .bool false, .int 181 0, .ref 299, .none, .none, .none, .none, .int 501 0, .int 106 0, .str n1 502],
  ⟨.type y0, none, .plain, ⟨[(some (.ref 300)), (some (.ref 3)), (some (.ref 297)), none, (some (.str n14 194)), none, (some (.ref 0))]⟩⟩,
  oT [.none, .none, .none, .none, .int 0 508, .none, .none, .none],
  oT [],
  oF [],
  oT [.str n47 512, .str n91 513, .str n92 514, .str n93 515, .str n94 516, .str n95 517, .str n96 518, .str n97 519, .str n28 520, .str n98 521],
  oT [],
  oQ (subOf p 7 0) n99,
  oC [.str n86 509, .str n99 510, .str n1 511, .int 108 0, .int 10 0, .int 0 0, .int 0 0, .int 3 0, .ref 303, .bool true, .int 181 0, .ref 304, .none, .ref 305, .ref 306, .ref 307, .int 522 0, .int 108 0, .str n1 523],
  oU (subOf p 7 0) n99 [] (.ref 302) (.str n14 194) (.ref 308) .none,
  oT [],
  oF [],
  oT [.str n47 528],
  oT [],
  oQ (subOf p 7 1) n100,
  oC [.str n26 525, .str n100 526, .str n1 527, .int 119 0, .int 1 0, .int 0 0, .int 0 0, .int 3 0, .ref 310, .bool true, .int 181 0, .ref 311, .none, .ref 312, .ref 313, .ref 314, .int 529 0, .int 119 0, .str n1 530],
  oU (subOf p 7 1) n100 [] .none (.str n14 194) (.ref 315) .none,
  oT [],
  oF [],
  oT [.str n47 535],
  oT [],
  oQ (subOf p 7 2) n101,
  oC [.str n27 532, .str n101 533, .str n1 534, .int 122 0, .int 1 0, .int 0 0, .int 0 0, .int 3 0, .ref 317, .bool true, .int 181 0, .ref 318, .none, .ref 319, .ref 320, .ref 321, .int 536 0, .int 122 0, .str n1 537],
  oU (subOf p 7 2) n101 [] .none (.str n14 194) (.ref 322) .none,
  oT [],
  oF [],
  oT [.str n47 542, .str n39 543],
  oT [],
  oQ (subOf p 7 3) n102,
  oC [.str n43 539, .str n102 540, .str n1 541, .int 125 0, .int 2 0, .int 0 0, .int 0 0, .int 3 0, .ref 324, .bool true, .int 181 0, .ref 325, .none, .ref 326, .ref 327, .ref 328, .int 544 0, .int 125 0, .str n1 545],
  oU (subOf p 7 3) n102 [] .none (.str n14 194) (.ref 329) .none,
  oT [],
  oF [],
  oT [.str n47 550],
  oT [],
  oQ (subOf p 7 4) n103,
  oC [.str n28 547, .str n103 548, .str n1 549, .int 133 0, .int 1 0, .int 0 0, .int 0 0, .int 3 0, .ref 331, .bool true, .int 181 0, .ref 332, .none, .ref 333, .ref 334, .ref 335, .int 551 0, .int 133 0, .str n1 552],
  oU (subOf p 7 4) n103 [] .none (.str n14 194) (.ref 336) .none,
  oT [],
  oF [],
  oT [.str n47 557],
  oT [],
  oQ (subOf p 7 5) n104,
  oC [.str n34 554, .str n104 555, .str n1 556, .int 136 0, .int 1 0, .int 0 0, .int 0 0, .int 3 0, .ref 338, .bool true, .int 181 0, .ref 339, .none, .ref 340, .ref 341, .ref 342, .int 558 0, .int 136 0, .str n1 559],
  oU (subOf p 7 5) n104 [] .none (.str n14 194) (.ref 343) .none,
  oT [.int 0 561],
  oT [],
  oF [],
  oT [.str n47 565, .str n55 566],
  oT [],
  oQ (subOf p 7 6) n105,
  oC [.str n33 562, .str n105 563, .str n1 564, .int 139 0, .int 2 0, .int 0 0, .int 0 0, .int 3 0, .ref 346, .bool true, .int 181 0, .ref 347, .none, .ref 348, .ref 349, .ref 350, .int 567 0, .int 139 0, .str n1 568],
  oU (subOf p 7 6) n105 [] (.ref 345) (.str n14 194) (.ref 351) .none,
  oT [],
  oF [],
  oT [.str n47 573],
  oT [],
  oQ (subOf p 7 7) n106,
  oC [.str n36 570, .str n106 571, .str n1 572, .int 147 0, .int 1 0, .int 0 0, .int 0 0, .int 3 0, .ref 353, .bool true, .int 181 0, .ref 354, .none, .ref 355, .ref 356, .ref 357, .int 574 0, .int 147 0, .str n1 575],
  oU (subOf p 7 7) n106 [] .none (.str n14 194) (.ref 358) .none,
  oT [],
  oF [],
  oT [.str n47 580],
  oT [],
  oQ (subOf p 7 8) n107,
  oC [.str n37 577, .str n107 578, .str n1 579, .int 150 0, .int 1 0, .int 0 0, .int 0 0, .int 3 0, .ref 360, .bool true, .int 181 0, .ref 361, .none, .ref 362, .ref 363, .ref 364, .int 581 0, .int 150 0, .str n1 582],
  oU (subOf p 7 8) n107 [] .none (.str n14 194) (.ref 365) .none,
  oT [],
  oF [],
  oT [.str n47 587],
  oT [],
  oQ (subOf p 7 9) n108,
  oC [.str n38 584, .str n108 585, .str n1 586, .int 156 0, .int 1 0, .int 0 0, .int 0 0, .int 3 0, .ref 367, .bool true, .int 181 0, .ref 368, .none, .ref 369, .ref 370, .ref 371, .int 588 0, .int 156 0, .str n1 589],
  oU (subOf p 7 9) n108 [] .none (.str n14 194) (.ref 372) .none,
  oT [],
  oF [],
  oT [.str n47 594, .str n55 595],
  oT [],
  oQ (subOf p 7 10) n109,
  oC [.str n44 591, .str n109 592, .str n1 593, .int 159 0, .int 2 0, .int 0 0, .int 0 0, .int 3 0, .ref 374, .bool true, .int 181 0, .ref 375, .none, .ref 376, .ref 377, .ref 378, .int 596 0, .int 159 0, .str n1 597],
  oU (subOf p 7 10) n109 [] .none (.str n14 194) (.ref 379) .none,
  oT [],
  oF [],
  oT [.str n47 602],
  oT [],
  oQ (subOf p 7 11) n110,
  oC [.str n39 599, .str n110 600, .str n1 601, .int 162 0, .int 1 0, .int 0 0, .int 0 0, .int 3 0, .ref 381, .bool true, .int 181 0, .ref 382, .none, .ref 383, .ref 384, .ref 385, .int 603 0, .int 162 0, .str n1 604],
  oU (subOf p 7 11) n110 [] .none (.str n14 194) (.ref 386) .none,
  oT [],
  oF [],
  oT [.str n47 609],
  oT [],
  oQ (subOf p 7 12) n111,
  oC [.str n40 606, .str n111 607, .str n1 608, .int 165 0, .int 1 0, .int 0 0, .int 0 0, .int 3 0, .ref 388, .bool true, .int 181 0, .ref 389, .none, .ref 390, .ref 391, .ref 392, .int 610 0, .int 165 0, .str n1 611],
  oU (subOf p 7 12) n111 [] .none (.str n14 194) (.ref 393) .none,
  oT [],
  oF [],
  oT [.str n47 616],
  oT [],
  oQ (subOf p 7 13) n112,
  oC [.str n41 613, .str n112 614, .str n1 615, .int 168 0, .int 1 0, .int 0 0, .int 0 0, .int 3 0, .ref 395, .bool true, .int 181 0, .ref 396, .none, .ref 397, .ref 398, .ref 399, .int 617 0, .int 168 0, .str n1 618],
  oU (subOf p 7 13) n112 [] .none (.str n14 194) (.ref 400) .none,
  oT [],
  oF [],
  oT [.str n47 623],
  oT [],
  oQ (subOf p 7 14) n113,
  oC [.str n42 620, .str n113 621, .str n1 622, .int 171 0, .int 1 0, .int 0 0, .int 0 0, .int 3 0, .ref 402, .bool true, .int 181 0, .ref 403, .none, .ref 404, .ref 405, .ref 406, .int 624 0, .int 171 0, .str n1 625],
  oU (subOf p 7 14) n113 [] .none (.str n14 194) (.ref 407) .none,
  oT [],
  oF [],
  oT [.str n47 630],
  oT [],
  oQ (subOf p 7 15) n114,
  oC [.str n45 627, .str n114 628, .str n1 629, .int 174 0, .int 1 0, .int 0 0, .int 0 0, .int 3 0, .ref 409, .bool true, .int 181 0, .ref 410, .none, .ref 411, .ref 412, .ref 413, .int 631 0, .int 174 0, .str n1 632],
  oU (subOf p 7 15) n114 [] .none (.str n14 194) (.ref 414) .none,
  oT [],
  oF [],
  oT [.str n47 637],
  oT [],
  oQ (subOf p 7 16) n115,
  oC [.str n87 634, .str n115 635, .str n1 636, .int 177 0, .int 1 0, .int 0 0, .int 0 0, .int 3 0, .ref 416, .bool true, .int 181 0, .ref 417, .none, .ref 418, .ref 419, .ref 420, .int 638 0, .int 177 0, .str n1 639],
  oU (subOf p 7 16) n115 [] .none (.str n14 194) (.ref 421) .none,
  oT [],
  oF [],
  oT [.str n47 644],
  oT [],
  oQ (subOf p 7 17) n116,
  oC [.str n88 641, .str n116 642, .str n1 643, .int 185 0, .int 1 0, .int 0 0, .int 0 0, .int 3 0, .ref 423, .bool true, .int 181 0, .ref 424, .none, .ref 425, .ref 426, .ref 427, .int 645 0, .int 185 0, .str n1 646],
  oU (subOf p 7 17) n116 [] .none (.str n14 194) (.ref 428) .none,
  oT [],
  oF [],
  oT [.str n47 651],
  oT [],
  oQ (subOf p 7 18) n117,
  oC [.str n89 648, .str n117 649, .str n1 650, .int 188 0, .int 1 0, .int 0 0, .int 0 0, .int 3 0, .ref 430, .bool true, .int 181 0, .ref 431, .none, .ref 432, .ref 433, .ref 434, .int 652 0, .int 188 0, .str n1 653],
  oU (subOf p 7 18) n117 [] .none (.str n14 194) (.ref 435) .none,
  oT [],
  oF [],
  oT [.str n47 658],
  oT [],
  oQ (subOf p 7 19) n118,
  oC [.str n90 655, .str n118 656, .str n1 657, .int 191 0, .int 1 0, .int 0 0, .int 0 0, .int 3 0, .ref 437, .bool true, .int 181 0, .ref 438, .none, .ref 439, .ref 440, .ref 441, .int 659 0, .int 191 0, .str n1 660],
  oU (subOf p 7 19) n118 [] .none (.str n14 194) (.ref 442) .none,
  oT [],
  oF [],
  oT [.str n47 665],
  oT [],
  oQ (subOf p 7 20) n119,
  oC [.str n46 662, .str n119 663, .str n1 664, .int 201 0, .int 1 0, .int 0 0, .int 0 0, .int 3 0, .ref 444, .bool true, .int 181 0, .ref 445, .none, .ref 446, .ref 447, .ref 448, .int 666 0, .int 201 0, .str n1 667],
  oU (subOf p 7 20) n119 [] .none (.str n14 194) (.ref 449) .none,
  oT [.str n120 669, .str n121 670, .str n122 671, .str n123 672, .str n124 673, .str n125 674, .str n126 675, .str n127 676, .str n128 677],
  oD P (.type y2) [(n18, 503, .str n14 194), (n20, 507, .int 106 506), (n86, 524, .ref 309), (n26, 531, .ref 316), (n27, 538, .ref 323), (n43, 546, .ref 330), (n28, 553, .ref 337), (n34, 560, .ref 344), (n33, 569, .ref 352), (n36, 576, .ref 359), (n37, 583, .ref 366), (n38, 590, .ref 373), (n44, 598, .ref 380), (n39, 605, .ref 387), (n40, 612, .ref 394), (n41, 619, .ref 401), (n42, 626, .ref 408), (n45, 633, .ref 415), (n87, 640, .ref 422), (n88, 647, .ref 429), (n89, 654, .ref 436), (n90, 661, .ref 443), (n46, 668, .ref 450), (n21, 678, .ref 451), (n4, 679, .none)] 2,
  ⟨.type y6, none, .cls { name := n85, bases := [.ref 206], mro := [.ref 453, .ref 206, .type y8], ns := 452, qualname := n85, hasDict := true, slotNames := [], subclasses := [], abstract := false, collection := none, hasDel := false }, ⟨[(some (.ref 295)), none, (some (.str n85 496)), (some (.str n85 504)), (some (.builtin y14)), (some (.bool true))]⟩⟩,
  ⟨.type y12, none, .fields ⟨[.ref 453, .ref 453, .ref 453]⟩, ⟨[]⟩⟩,
  ⟨.type y4, none, .fields ⟨[.builtin y13, .ref 453]⟩, ⟨[]⟩⟩]
noncomputable def t11 (p : Program) (P : Params) : BT := insAll (setAll (t10 p P) [(3, oD P (.type y2) [(n3, 165, .str n129 682), (n4, 166, .none), (n5, 167, .none), (n6, 168, .builtin y1), (n7, 169, .none), (n8, 170, .ref 6), (n9, 171, .ref 4), (n10, 173, .str n1 172), (n11, 174, .none), (n12, 193, .ref 21), (n17, 215, .ref 31), (n24, 235, .ref 44), (n25, 407, .ref 206), (n71, 494, .ref 290), (n84, 495, .ref 294), (n85, 681, .ref 453)] 16)]) 456 []
noncomputable def t12 (p : Program) (P : Params) : BT := insAll (setAll (t11 p P) [(3, oD P (.type y2) [(n3, 165, .str n129 682), (n4, 166, .none), (n5, 167, .none), (n6, 168, .builtin y1), (n7, 169, .none), (n8, 170, .ref 6), (n9, 171, .ref 4), (n10, 173, .str n1 172), (n11, 174, .none), (n12, 193, .ref 21), (n17, 215, .ref 31), (n24, 235, .ref 44), (n25, 407, .ref 206), (n71, 494, .ref 290), (n84, 495, .ref 294), (n85, 681, .ref 453), (n130, 845, .ref 593)] 17), (12, oF [.int 1 0, .int 0 0, .ref 20, .int 5 0, .int 0 0, .ref 27, .int 7 0, .int 0 0, .ref 40, .int 9 0, .int 0 0, .ref 53, .int 74 0, .int 0 0, .ref 216, .int 106 0, .int 0 0, .ref 300, .int 207 0, .int 0 0, .ref 461]), (206, ⟨.type y6, none, .cls { name := n25, bases := [.type y8], mro := [.ref 206, .type y8], ns := 205, qualname := n25, hasDict := true, slotNames := [], subclasses := [.ref 290, .ref 453, .ref 593], abstract := false, collection := none, hasDel := false }, ⟨[(some (.ref 48)), none, (some (.str n25 236)), (some (.str n25 244)), (some (.builtin y14)), (some (.bool true))]⟩⟩)]) 456 [
  oT [.ref 206],
  ⟨.type y4, none, .fields ⟨[.builtin y5, .type y6]⟩, ⟨[]⟩⟩,
  oD P (.type y2) [(n18, 691, .str n129 682), (n19, 693, .str n130 692), (n20, 695, .int 207 694), (n86, 707, .ref 470), (n26, 714, .ref 477), (n27, 721, .ref 484), (n32, 728, .ref 491), (n131, 736, .ref 498), (n34, 743, .ref 505), (n35, 750, .ref 512), (n33, 760, .ref 520), (n39, 768, .ref 527), (n40, 775, .ref 534), (n42, 782, .ref 541), (n45, 789, .ref 548), (n43, 802, .ref 555), (n36, 809, .ref 562), (n37, 816, .ref 569), (n38, 823, .ref 576), (n87, 830, .ref 583), (n46, 837, .ref 590), (n21, 842, .ref 591)] 22,
  oT [],
  oF [.int 209 0, .int 4 0, .ref 469, .int 216 0, .int 4 0, .ref 476, .int 219 0, .int 4 0, .ref 483, .int 222 0, .int 4 0, .ref 490, .int 225 0, .int 4 0, .ref 497, .int 230 0, .int 4 0, .ref 504, .int 233 0, .int 4 0, .ref 511, .int 236 0, .int 4 0, .ref 519, .int 246 0, .int 4 0, .ref 526, .int 250 0, .int 4 0, .ref 533, .int 253 0, .int 4 0, .ref 540, .int 256 0, .int 4 0, .ref 547, .int 263 0, .int 4 0, .ref 554, .int 280 0, .int 4 0, .ref 561, .int 283 0, .int 4 0, .ref 568, .int 286 0, .int 4 0, .ref 575, .int 289 0, .int 4 0, .ref 582, .int 292 0, .int 4 0, .ref 589],
  oC [.str n130 686, .str n130 687, .str n1 688, .int 207 0, .int 0 0, .int 0 0, .int 0 0, .int 0 0, .ref 459, .bool false, .int 181 0, .ref 460, .none, .none, .none, .none, .int 689 0, .int 207 0, .str n1 690],
  ⟨.type y0, none, .plain, ⟨[(some (.ref 461)), (some (.ref 3)), (some (.ref 458)), none, (some (.str n129 682)), none, (some (.ref 0))]⟩⟩,
  oT [.none, .int 0 696],
  oT [],
  oF [],
  oT [.str n47 700, .str n132 701, .str n133 702, .str n95 703, .str n134 704],
  oT [],
  oQ (subOf p 9 0) n135,
  oC [.str n86 697, .str n135 698, .str n1 699, .int 209 0, .int 5 0, .int 0 0, .int 0 0, .int 3 0, .ref 464, .bool true, .int 181 0, .ref 465, .none, .ref 466, .ref 467, .ref 468, .int 705 0, .int 209 0, .str n1 706],
  oU (subOf p 9 0) n135 [] (.ref 463) (.str n129 682) (.ref 469) .none,
  oT [],
  oF [],
  oT [.str n47 711],
  oT [],
  oQ (subOf p 9 1) n136,
  oC [.str n26 708, .str n136 709, .str n1 710, .int 216 0, .int 1 0, .int 0 0, .int 0 0, .int 3 0, .ref 471, .bool true, .int 181 0, .ref 472, .none, .ref 473, .ref 474, .ref 475, .int 712 0, .int 216 0, .str n1 713],
  oU (subOf p 9 1) n136 [] .none (.str n129 682) (.ref 476) .none,
  oT [],
  oF [],
  oT [.str n47 718],
  oT [],
  oQ (subOf p 9 2) n137,
  oC [.str n27 715, .str n137 716, .str n1 717, .int 219 0, .int 1 0, .int 0 0, .int 0 0, .int 3 0, .ref 478, .bool true, .int 181 0, .ref 479, .none, .ref 480, .ref 481, .ref 482, .int 719 0, .int 219 0, .str n1 720],
  oU (subOf p 9 2) n137 [] .none (.str n129 682) (.ref 483) .none,
  oT [],
  oF [],
  oT [.str n47 725],
  oT [],
  oQ (subOf p 9 3) n138,
  oC [.str n32 722, .str n138 723, .str n1 724, .int 222 0, .int 1 0, .int 0 0, .int 0 0, .int 3 0, .ref 485, .bool true, .int 181 0, .ref 486, .none, .ref 487, .ref 488, .ref 489, .int 726 0, .int 222 0, .str n1 727],
  oU (subOf p 9 3) n138 [] .none (.str n129 682) (.ref 490) .none,
  oT [],
  oF [],
  oT [.str n47 732, .str n132 733],
  oT [],
  oQ (subOf p 9 4) n139,
  oC [.str n131 729, .str n139 730, .str n1 731, .int 225 0, .int 1 0, .int 0 0, .int 0 0, .int 3 0, .ref 492, .bool true, .int 181 0, .ref 493, .none, .ref 494, .ref 495, .ref 496, .int 734 0, .int 225 0, .str n1 735],
  oU (subOf p 9 4) n139 [] .none (.str n129 682) (.ref 497) .none,
  oT [],
  oF [],
  oT [.str n47 740],
  oT [],
  oQ (subOf p 9 5) n140,
  oC [.str n34 737, .str n140 738, .str n1 739, .int 230 0, .int 1 0, .int 0 0, .int 0 0, .int 3 0, .ref 499, .bool true, .int 181 0, .ref 500, .none, .ref 501, .ref 502, .ref 503, .int 741 0, .int 230 0, .str n1 742],
  oU (subOf p 9 5) n140 [] .none (.str n129 682) (.ref 504) .none,
  oT [],
  oF [],
  oT [.str n47 747],
  oT [],
  oQ (subOf p 9 6) n141,
  oC [.str n35 744, .str n141 745, .str n1 746, .int 233 0, .int 1 0, .int 0 0, .int 0 0, .int 3 0, .ref 506, .bool true, .int 181 0, .ref 507, .none, .ref 508, .ref 509, .ref 510, .int 748 0, .int 233 0, .str n1 749],
  oU (subOf p 9 6) n141 [] .none (.str n129 682) (.ref 511) .none,
  oT [.int 0 751],
  oT [],
  oF [],
  oT [.str n47 755, .str n55 756, .str n142 757],
  oT [],
  oQ (subOf p 9 7) n143,
  oC [.str n33 752, .str n143 753, .str n1 754, .int 236 0, .int 2 0, .int 0 0, .int 0 0, .int 3 0, .ref 514, .bool true, .int 181 0, .ref 515, .none, .ref 516, .ref 517, .ref 518, .int 758 0, .int 236 0, .str n1 759],
  oU (subOf p 9 7) n143 [] (.ref 513) (.str n129 682) (.ref 519) .none,
  oT [],
  oF [],
  oT [.str n47 764, .str n134 765],
  oT [],
  oQ (subOf p 9 8) n144,
  oC [.str n39 761, .str n144 762, .str n1 763, .int 246 0, .int 1 0, .int 0 0, .int 0 0, .int 3 0, .ref 521, .bool true, .int 181 0, .ref 522, .none, .ref 523, .ref 524, .ref 525, .int 766 0, .int 246 0, .str n1 767],
  oU (subOf p 9 8) n144 [] .none (.str n129 682) (.ref 526) .none,
  oT [],
  oF [],
  oT [.str n47 772],
  oT [],
  oQ (subOf p 9 9) n145,
  oC [.str n40 769, .str n145 770, .str n1 771, .int 250 0, .int 1 0, .int 0 0, .int 0 0, .int 3 0, .ref 528, .bool true, .int 181 0, .ref 529, .none, .ref 530, .ref 531, .ref 532, .int 773 0, .int 250 0, .str n1 774],
  oU (subOf p 9 9) n145 [] .none (.str n129 682) (.ref 533) .none,
  oT [],
  oF [],
  oT [.str n47 779],
  oT [],
  oQ (subOf p 9 10) n146,
  oC [.str n42 776, .str n146 777, .str n1 778, .int 253 0, .int 1 0, .int 0 0, .int 0 0, .int 3 0, .ref 535, .bool true, .int 181 0, .ref 536, .none, .ref 537, .ref 538, .ref 539, .int 780 0, .int 253 0, .str n1 781],
  oU (subOf p 9 10) n146 [] .none (.str n129 682) (.ref 540) .none,
  oT [],
  oF [],
  oT [.str n47 786],
  oT [],
  oQ (subOf p 9 11) n147,
  oC [.str n45 783, .str n147 784, .str n1 785, .int 256 0, .int 1 0, .int 0 0, .int 0 0, .int 3 0, .ref 542, .bool true, .int 181 0, .ref 543, .none, .ref 544, .ref 545, .ref 546, .int 787 0, .int 256 0, .str n1 788],
  oU (subOf p 9 11) n147 [] .none (.str n129 682) (.ref 547) .none,
  oT [],
  oF [],
  oT [.str n47 793, .str n39 794, .str n132 795, .str n148 796, .str n149 797, .str n150 798, .str n151 799],
  oT [],
  oQ (subOf p 9 12) n152,
  oC [.str n43 790, .str n152 791, .str n1 792, .int 263 0, .int 2 0, .int 0 0, .int 0 0, .int 3 0, .ref 549, .bool true, .int 181 0, .ref 550, .none, .ref 551, .ref 552, .ref 553, .int 800 0, .int 263 0, .str n1 801],
  oU (subOf p 9 12) n152 [] .none (.str n129 682) (.ref 554) .none,
  oT [],
  oF [],
  oT [.str n47 806],
  oT [],
  oQ (subOf p 9 13) n153,
  oC [.str n36 803, .str n153 804, .str n1 805, .int 280 0, .int 1 0, .int 0 0, .int 0 0, .int 3 0, .ref 556, .bool true, .int 181 0, .ref 557, .none, .ref 558, .ref 559, .ref 560, .int 807 0, .int 280 0, .str n1 808],
  oU (subOf p 9 13) n153 [] .none (.str n129 682) (.ref 561) .none,
  oT [],
  oF [],
  oT [.str n47 813],
  oT [],
  oQ (subOf p 9 14) n154,
  oC [.str n37 810, .str n154 811, .str n1 812, .int 283 0, .int 1 0, .int 0 0, .int 0 0, .int 3 0, .ref 563, .bool true, .int 181 0, .ref 564, .none, .ref 565, .ref 566, .ref 567, .int 814 0, .int 283 0, .str n1 815],
  oU (subOf p 9 14) n154 [] .none (.str n129 682) (.ref 568) .none,
  oT [],
  oF [],
  oT [.str n47 820],
  oT [],
  oQ (subOf p 9 15) n155,
  oC [.str n38 817, .str n155 818, .str n1 819, .int 286 0, .int 1 0, .int 0 0, .int 0 0, .int 3 0, .ref 570, .bool true, .int 181 0, .ref 571, .none, .ref 572, .ref 573, .ref 574, .int 821 0, .int 286 0, .str n1 822],
  oU (subOf p 9 15) n155 [] .none (.str n129 682) (.ref 575) .none,
  oT [],
  oF [],
  oT [.str n47 827],
  oT [],
  oQ (subOf p 9 16) n156,
  oC [.str n87 824, .str n156 825, .str n1 826, .int 289 0, .int 1 0, .int 0 0, .int 0 0, .int 3 0, .ref 577, .bool true, .int 181 0, .ref 578, .none, .ref 579, .ref 580, .ref 581, .int 828 0, .int 289 0, .str n1 829],
  oU (subOf p 9 16) n156 [] .none (.str n129 682) (.ref 582) .none,
  oT [],
  oF [],
  oT [.str n47 834],
  oT [],
  oQ (subOf p 9 17) n157,
  oC [.str n46 831, .str n157 832, .str n1 833, .int 292 0, .int 1 0, .int 0 0, .int 0 0, .int 3 0, .ref 584, .bool true, .int 181 0, .ref 585, .none, .ref 586, .ref 587, .ref 588, .int 835 0, .int 292 0, .str n1 836],
  oU (subOf p 9 17) n157 [] .none (.str n129 682) (.ref 589) .none,
  oT [.str n134 838, .str n132 839, .str n148 840, .str n95 841],
  oD P (.type y2) [(n18, 691, .str n129 682), (n20, 695, .int 207 694), (n86, 707, .ref 470), (n26, 714, .ref 477), (n27, 721, .ref 484), (n32, 728, .ref 491), (n131, 736, .ref 498), (n34, 743, .ref 505), (n35, 750, .ref 512), (n33, 760, .ref 520), (n39, 768, .ref 527), (n40, 775, .ref 534), (n42, 782, .ref 541), (n45, 789, .ref 548), (n43, 802, .ref 555), (n36, 809, .ref 562), (n37, 816, .ref 569), (n38, 823, .ref 576), (n87, 830, .ref 583), (n46, 837, .ref 590), (n21, 842, .ref 591), (n4, 843, .none)] 2,
  ⟨.type y6, none, .cls { name := n130, bases := [.ref 206], mro := [.ref 593, .ref 206, .type y8], ns := 592, qualname := n130, hasDict := true, slotNames := [], subclasses := [], abstract := false, collection := none, hasDel := false }, ⟨[(some (.ref 456)), none, (some (.str n130 684)), (some (.str n130 692)), (some (.builtin y14)), (some (.bool true))]⟩⟩,
  ⟨.type y12, none, .fields ⟨[.ref 593, .ref 593, .ref 593]⟩, ⟨[]⟩⟩,
  ⟨.type y4, none, .fields ⟨[.builtin y13, .ref 593]⟩, ⟨[]⟩⟩]
noncomputable def t13 (p : Program) (P : Params) : BT := insAll (setAll (t12 p P) [(3, oD P (.type y2) [(n3, 165, .str n158 846), (n4, 166, .none), (n5, 167, .none), (n6, 168, .builtin y1), (n7, 169, .none), (n8, 170, .ref 6), (n9, 171, .ref 4), (n10, 173, .str n1 172), (n11, 174, .none), (n12, 193, .ref 21), (n17, 215, .ref 31), (n24, 235, .ref 44), (n25, 407, .ref 206), (n71, 494, .ref 290), (n84, 495, .ref 294), (n85, 681, .ref 453), (n130, 845, .ref 593)] 17)]) 596 []
noncomputable def t14 (p : Program) (P : Params) : BT := insAll (setAll (t13 p P) [(3, oD P (.type y2) [(n3, 165, .str n158 846), (n4, 166, .none), (n5, 167, .none), (n6, 168, .builtin y1), (n7, 169, .none), (n8, 170, .ref 6), (n9, 171, .ref 4), (n10, 173, .str n1 172), (n11, 174, .none), (n12, 193, .ref 21), (n17, 215, .ref 31), (n24, 235, .ref 44), (n25, 407, .ref 206), (n71, 494, .ref 290), (n84, 495, .ref 294), (n85, 681, .ref 453), (n130, 845, .ref 593), (n159, 919, .ref 654)] 18), (12, oF [.int 1 0, .int 0 0, .ref 20, .int 5 0, .int 0 0, .ref 27, .int 7 0, .int 0 0, .ref 40, .int 9 0, .int 0 0, .ref 53, .int 74 0, .int 0 0, .ref 216, .int 106 0, .int 0 0, .ref 300, .int 207 0, .int 0 0, .ref 461, .int 295 0, .int 0 0, .ref 601]), (206, ⟨.type y6, none, .cls { name := n25, bases := [.type y8], mro := [.ref 206, .type y8], ns := 205, qualname := n25, hasDict := true, slotNames := [], subclasses := [.ref 290, .ref 453, .ref 593, .ref 654], abstract := false, collection := none, hasDel := false }, ⟨[(some (.ref 48)), none, (some (.str n25 236)), (some (.str n25 244)), (some (.builtin y14)), (some (.bool true))]⟩⟩)]) 596 [
  oT [.ref 206],
  ⟨.type y4, none, .fields ⟨[.builtin y5, .type y6]⟩, ⟨[]⟩⟩,
  oD P (.type y2) [(n18, 855, .str n158 846), (n19, 857, .str n159 856), (n20, 859, .int 295 858), (n86, 868, .ref 609), (n27, 875, .ref 616), (n32, 882, .ref 623), (n34, 889, .ref 630), (n35, 896, .ref 637), (n43, 906, .ref 644), (n36, 913, .ref 651), (n21, 916, .ref 652)] 11,
  oT [],
  oF [.int 297 0, .int 4 0, .ref 608, .int 301 0, .int 4 0, .ref 615, .int 304 0, .int 4 0, .ref 622, .int 307 0, .int 4 0, .ref 629, .int 310 0, .int 4 0, .ref 636, .int 313 0, .int 4 0, .ref 643, .int 320 0, .int 4 0, .ref 650],
  oC [.str n159 850, .str n159 851, .str n1 852, .int 295 0, .int 0 0, .int 0 0, .int 0 0, .int 0 0, .ref 599, .bool false, .int 181 0, .ref 600, .none, .none, .none, .none, .int 853 0, .int 295 0, .str n1 854],
  ⟨.type y0, none, .plain, ⟨[(some (.ref 601)), (some (.ref 3)), (some (.ref 598)), none, (some (.str n158 846)), none, (some (.ref 0))]⟩⟩,
  oT [],
  oF [],
  oT [.str n47 863, .str n160 864, .str n161 865],
  oT [],
  oQ (subOf p 11 0) n162,
  oC [.str n86 860, .str n162 861, .str n1 862, .int 297 0, .int 3 0, .int 0 0, .int 0 0, .int 3 0, .ref 603, .bool true, .int 181 0, .ref 604, .none, .ref 605, .ref 606, .ref 607, .int 866 0, .int 297 0, .str n1 867],
  oU (subOf p 11 0) n162 [] .none (.str n158 846) (.ref 608) .none,
  oT [],
  oF [],
  oT [.str n47 872],
  oT [],
  oQ (subOf p 11 1) n163,
  oC [.str n27 869, .str n163 870, .str n1 871, .int 301 0, .int 1 0, .int 0 0, .int 0 0, .int 3 0, .ref 610, .bool true, .int 181 0, .ref 611, .none, .ref 612, .ref 613, .ref 614, .int 873 0, .int 301 0, .str n1 874],
  oU (subOf p 11 1) n163 [] .none (.str n158 846) (.ref 615) .none,
  oT [],
  oF [],
  oT [.str n47 879],
  oT [],
  oQ (subOf p 11 2) n164,
  oC [.str n32 876, .str n164 877, .str n1 878, .int 304 0, .int 1 0, .int 0 0, .int 0 0, .int 3 0, .ref 617, .bool true, .int 181 0, .ref 618, .none, .ref 619, .ref 620, .ref 621, .int 880 0, .int 304 0, .str n1 881],
  oU (subOf p 11 2) n164 [] .none (.str n158 846) (.ref 622) .none,
  oT [],
  oF [],
  oT [.str n47 886],
  oT [],
  oQ (subOf p 11 3) n165,
  oC [.str n34 883, .str n165 884, .str n1 885, .int 307 0, .int 1 0, .int 0 0, .int 0 0, .int 3 0, .ref 624, .bool true, .int 181 0, .ref 625, .none, .ref 626, .ref 627, .ref 628, .int 887 0, .int 307 0, .str n1 888],
  oU (subOf p 11 3) n165 [] .none (.str n158 846) (.ref 629) .none,
  oT [],
  oF [],
  oT [.str n47 893],
  oT [],
  oQ (subOf p 11 4) n166,
  oC [.str n35 890, .str n166 891, .str n1 892, .int 310 0, .int 1 0, .int 0 0, .int 0 0, .int 3 0, .ref 631, .bool true, .int 181 0, .ref 632, .none, .ref 633, .ref 634, .ref 635, .int 894 0, .int 310 0, .str n1 895],
  oU (subOf p 11 4) n166 [] .none (.str n158 846) (.ref 636) .none,
  oT [],
  oF [],
  oT [.str n47 900, .str n39 901, .str n167 902, .str n168 903],
  oT [],
  oQ (subOf p 11 5) n169,
  oC [.str n43 897, .str n169 898, .str n1 899, .int 313 0, .int 2 0, .int 0 0, .int 0 0, .int 3 0, .ref 638, .bool true, .int 181 0, .ref 639, .none, .ref 640, .ref 641, .ref 642, .int 904 0, .int 313 0, .str n1 905],
  oU (subOf p 11 5) n169 [] .none (.str n158 846) (.ref 643) .none,
  oT [],
  oF [],
  oT [.str n47 910],
  oT [],
  oQ (subOf p 11 6) n170,
  oC [.str n36 907, .str n170 908, .str n1 909, .int 320 0, .int 1 0, .int 0 0, .int 0 0, .int 3 0, .ref 645, .bool true, .int 181 0, .ref 646, .none, .ref 647, .ref 648, .ref 649, .int 911 0, .int 320 0, .str n1 912],
  oU (subOf p 11 6) n170 [] .none (.str n158 846) (.ref 650) .none,
  oT [.str n160 914, .str n161 915],
  oD P (.type y2) [(n18, 855, .str n158 846), (n20, 859, .int 295 858), (n86, 868, .ref 609), (n27, 875, .ref 616), (n32, 882, .ref 623), (n34, 889, .ref 630), (n35, 896, .ref 637), (n43, 906, .ref 644), (n36, 913, .ref 651), (n21, 916, .ref 652), (n4, 917, .none)] 2,
  ⟨.type y6, none, .cls { name := n159, bases := [.ref 206], mro := [.ref 654, .ref 206, .type y8], ns := 653, qualname := n159, hasDict := true, slotNames := [], subclasses := [], abstract := false, collection := none, hasDel := false }, ⟨[(some (.ref 596)), none, (some (.str n159 848)), (some (.str n159 856)), (some (.builtin y14)), (some (.bool true))]⟩⟩,
  ⟨.type y12, none, .fields ⟨[.ref 654, .ref 654, .ref 654]⟩, ⟨[]⟩⟩,
  ⟨.type y4, none, .fields ⟨[.builtin y13, .ref 654]⟩, ⟨[]⟩⟩]
noncomputable def t15 (p : Program) (P : Params) : BT := insAll (setAll (t14 p P) [(3, oD P (.type y2) [(n3, 165, .str n158 846), (n4, 166, .none), (n5, 167, .none), (n6, 168, .builtin y1), (n7, 169, .none), (n8, 170, .ref 6), (n9, 171, .ref 4), (n10, 173, .str n1 172), (n11, 174, .none), (n12, 193, .ref 21), (n17, 215, .ref 31), (n24, 235, .ref 44), (n25, 407, .ref 206), (n71, 494, .ref 290), (n84, 495, .ref 294), (n85, 681, .ref 453), (n130, 845, .ref 593), (n159, 919, .ref 654), (n171, 965, .ref 694)] 19), (12, oF [.int 1 0, .int 0 0, .ref 20, .int 5 0, .int 0 0, .ref 27, .int 7 0, .int 0 0, .ref 40, .int 9 0, .int 0 0, .ref 53, .int 74 0, .int 0 0, .ref 216, .int 106 0, .int 0 0, .ref 300, .int 207 0, .int 0 0, .ref 461, .int 295 0, .int 0 0, .ref 601, .int 322 0, .int 0 0, .ref 662]), (654, ⟨.type y6, none, .cls { name := n159, bases := [.ref 206], mro := [.ref 654, .ref 206, .type y8], ns := 653, qualname := n159, hasDict := true, slotNames := [], subclasses := [.ref 694], abstract := false, collection := none, hasDel := false }, ⟨[(some (.ref 596)), none, (some (.str n159 848)), (some (.str n159 856)), (some (.builtin y14)), (some (.bool true))]⟩⟩)]) 657 [
  oT [.ref 654],
  ⟨.type y4, none, .fields ⟨[.builtin y5, .type y6]⟩, ⟨[]⟩⟩,
  oD P (.type y2) [(n18, 927, .str n158 846), (n19, 929, .str n171 928), (n20, 931, .int 322 930), (n37, 939, .ref 670), (n38, 947, .ref 677), (n87, 954, .ref 684), (n46, 961, .ref 691), (n21, 962, .ref 692)] 8,
  oT [],
  oF [.int 324 0, .int 4 0, .ref 669, .int 332 0, .int 4 0, .ref 676, .int 340 0, .int 4 0, .ref 683, .int 343 0, .int 4 0, .ref 690],
  oC [.str n171 922, .str n171 923, .str n1 924, .int 322 0, .int 0 0, .int 0 0, .int 0 0, .int 0 0, .ref 660, .bool false, .int 181 0, .ref 661, .none, .none, .none, .none, .int 925 0, .int 322 0, .str n1 926],
  ⟨.type y0, none, .plain, ⟨[(some (.ref 662)), (some (.ref 3)), (some (.ref 659)), none, (some (.str n158 846)), none, (some (.ref 0))]⟩⟩,
  oT [],
  oF [],
  oT [.str n47 935, .str n172 936],
  oT [],
  oQ (subOf p 12 0) n173,
  oC [.str n37 932, .str n173 933, .str n1 934, .int 324 0, .int 1 0, .int 0 0, .int 0 0, .int 3 0, .ref 664, .bool true, .int 181 0, .ref 665, .none, .ref 666, .ref 667, .ref 668, .int 937 0, .int 324 0, .str n1 938],
  oU (subOf p 12 0) n173 [] .none (.str n158 846) (.ref 669) .none,
  oT [],
  oF [],
  oT [.str n47 943, .str n174 944],
  oT [],
  oQ (subOf p 12 1) n175,
  oC [.str n38 940, .str n175 941, .str n1 942, .int 332 0, .int 1 0, .int 0 0, .int 0 0, .int 3 0, .ref 671, .bool true, .int 181 0, .ref 672, .none, .ref 673, .ref 674, .ref 675, .int 945 0, .int 332 0, .str n1 946],
  oU (subOf p 12 1) n175 [] .none (.str n158 846) (.ref 676) .none,
  oT [],
  oF [],
  oT [.str n47 951],
  oT [],
  oQ (subOf p 12 2) n176,
  oC [.str n87 948, .str n176 949, .str n1 950, .int 340 0, .int 1 0, .int 0 0, .int 0 0, .int 3 0, .ref 678, .bool true, .int 181 0, .ref 679, .none, .ref 680, .ref 681, .ref 682, .int 952 0, .int 340 0, .str n1 953],
  oU (subOf p 12 2) n176 [] .none (.str n158 846) (.ref 683) .none,
  oT [],
  oF [],
  oT [.str n47 958],
  oT [],
  oQ (subOf p 12 3) n177,
  oC [.str n46 955, .str n177 956, .str n1 957, .int 343 0, .int 1 0, .int 0 0, .int 0 0, .int 3 0, .ref 685, .bool true, .int 181 0, .ref 686, .none, .ref 687, .ref 688, .ref 689, .int 959 0, .int 343 0, .str n1 960],
  oU (subOf p 12 3) n177 [] .none (.str n158 846) (.ref 690) .none,
  oT [],
  oD P (.type y2) [(n18, 927, .str n158 846), (n20, 931, .int 322 930), (n37, 939, .ref 670), (n38, 947, .ref 677), (n87, 954, .ref 684), (n46, 961, .ref 691), (n21, 962, .ref 692), (n4, 963, .none)] 2,
  ⟨.type y6, none, .cls { name := n171, bases := [.ref 654], mro := [.ref 694, .ref 654, .ref 206, .type y8], ns := 693, qualname := n171, hasDict := true, slotNames := [], subclasses := [], abstract := false, collection := none, hasDel := false }, ⟨[(some (.ref 657)), none, (some (.str n171 920)), (some (.str n171 928)), (some (.builtin y14)), (some (.bool true))]⟩⟩,
  ⟨.type y12, none, .fields ⟨[.ref 694, .ref 694, .ref 694]⟩, ⟨[]⟩⟩,
  ⟨.type y4, none, .fields ⟨[.builtin y13, .ref 694]⟩, ⟨[]⟩⟩]
noncomputable def t16 (p : Program) (P : Params) : BT := insAll (setAll (t15 p P) [(3, oD P (.type y2) [(n3, 165, .str n158 846), (n4, 166, .none), (n5, 167, .none), (n6, 168, .builtin y1), (n7, 169, .none), (n8, 170, .ref 6), (n9, 171, .ref 4), (n10, 173, .str n1 172), (n11, 174, .none), (n12, 193, .ref 21), (n17, 215, .ref 31), (n24, 235, .ref 44), (n25, 407, .ref 206), (n71, 494, .ref 290), (n84, 495, .ref 294), (n85, 681, .ref 453), (n130, 845, .ref 593), (n159, 919, .ref 654), (n171, 965, .ref 694), (n178, 1070, .ref 763)] 20), (12, oF [.int 1 0, .int 0 0, .ref 20, .int 5 0, .int 0 0, .ref 27, .int 7 0, .int 0 0, .ref 40, .int 9 0, .int 0 0, .ref 53, .int 74 0, .int 0 0, .ref 216, .int 106 0, .int 0 0, .ref 300, .int 207 0, .int 0 0, .ref 461, .int 295 0, .int 0 0, .ref 601, .int 322 0, .int 0 0, .ref 662, .int 345 0, .int 0 0, .ref 702]), (694, ⟨.type y6, none, .cls { name := n171, bases := [.ref 654], mro := [.ref 694, .ref 654, .ref 206, .type y8], ns := 693, qualname := n171, hasDict := true, slotNames := [], subclasses := [.ref 763], abstract := false, collection := none, hasDel := false }, ⟨[(some (.ref 657)), none, (some (.str n171 920)), (some (.str n171 928)), (some (.builtin y14)), (some (.bool true))]⟩⟩)]) 697 [
  oT [.ref 694],
  ⟨.type y4, none, .fields ⟨[.builtin y5, .type y6]⟩, ⟨[]⟩⟩,
  oD P (.type y2) [(n18, 973, .str n158 846), (n19, 975, .str n178 974), (n20, 977, .int 345 976), (n179, 978, .none), (n33, 993, .ref 711), (n26, 1000, .ref 718), (n43, 1010, .ref 725), (n39, 1020, .ref 732), (n45, 1035, .ref 739), (n87, 1046, .ref 746), (n46, 1057, .ref 753), (n44, 1065, .ref 760), (n21, 1067, .ref 761)] 13,
  oT [],
  oF [.int 348 0, .int 4 0, .ref 710, .int 376 0, .int 4 0, .ref 717, .int 379 0, .int 4 0, .ref 724, .int 388 0, .int 4 0, .ref 731, .int 403 0, .int 4 0, .ref 738, .int 424 0, .int 4 0, .ref 745, .int 440 0, .int 4 0, .ref 752, .int 456 0, .int 4 0, .ref 759],
  oC [.str n178 968, .str n178 969, .str n1 970, .int 345 0, .int 0 0, .int 0 0, .int 0 0, .int 0 0, .ref 700, .bool false, .int 181 0, .ref 701, .none, .none, .none, .none, .int 971 0, .int 345 0, .str n1 972],
  ⟨.type y0, none, .plain, ⟨[(some (.ref 702)), (some (.ref 3)), (some (.ref 699)), none, (some (.str n158 846)), none, (some (.ref 0))]⟩⟩,
  oT [.int 0 979],
  oT [],
  oF [],
  oT [.str n47 983, .str n55 984, .str n160 985, .str n161 986, .str n180 987, .str n181 988, .str n182 989, .str n183 990],
  oT [],
  oQ (subOf p 13 1) n184,
  oC [.str n33 980, .str n184 981, .str n1 982, .int 348 0, .int 2 0, .int 0 0, .int 0 0, .int 3 0, .ref 705, .bool true, .int 181 0, .ref 706, .none, .ref 707, .ref 708, .ref 709, .int 991 0, .int 348 0, .str n1 992],
  oU (subOf p 13 1) n184 [] (.ref 704) (.str n158 846) (.ref 710) .none,
  oT [],
  oF [],
  oT [.str n47 997],
  oT [],
  oQ (subOf p 13 2) n185,
  oC [.str n26 994, .str n185 995, .str n1 996, .int 376 0, .int 1 0, .int 0 0, .int 0 0, .int 3 0, .ref 712, .bool true, .int 181 0, .ref 713, .none, .ref 714, .ref 715, .ref 716, .int 998 0, .int 376 0, .str n1 999],
  oU (subOf p 13 2) n185 [] .none (.str n158 846) (.ref 717) .none,
  oT [],
  oF [],
  oT [.str n47 1004, .str n39 1005, .str n167 1006, .str n168 1007],
  oT [],
  oQ (subOf p 13 3) n186,
  oC [.str n43 1001, .str n186 1002, .str n1 1003, .int 379 0, .int 2 0, .int 0 0, .int 0 0, .int 3 0, .ref 719, .bool true, .int 181 0, .ref 720, .none, .ref 721, .ref 722, .ref 723, .int 1008 0, .int 379 0, .str n1 1009],
  oU (subOf p 13 3) n186 [] .none (.str n158 846) (.ref 724) .none,
  oT [],
  oF [],
  oT [.str n47 1014, .str n179 1015, .str n160 1016, .str n161 1017],
  oT [],
  oQ (subOf p 13 4) n187,
  oC [.str n39 1011, .str n187 1012, .str n1 1013, .int 388 0, .int 1 0, .int 0 0, .int 0 0, .int 3 0, .ref 726, .bool true, .int 181 0, .ref 727, .none, .ref 728, .ref 729, .ref 730, .int 1018 0, .int 388 0, .str n1 1019],
  oU (subOf p 13 4) n187 [] .none (.str n158 846) (.ref 731) .none,
  oT [],
  oF [],
  oT [.str n47 1024, .str n160 1025, .str n161 1026, .str n180 1027, .str n181 1028, .str n188 1029, .str n189 1030, .str n190 1031, .str n191 1032],
  oT [],
  oQ (subOf p 13 5) n192,
  oC [.str n45 1021, .str n192 1022, .str n1 1023, .int 403 0, .int 1 0, .int 0 0, .int 0 0, .int 3 0, .ref 733, .bool true, .int 181 0, .ref 734, .none, .ref 735, .ref 736, .ref 737, .int 1033 0, .int 403 0, .str n1 1034],
  oU (subOf p 13 5) n192 [] .none (.str n158 846) (.ref 738) .none,
  oT [],
  oF [],
  oT [.str n47 1039, .str n160 1040, .str n161 1041, .str n193 1042, .str n194 1043],
  oT [],
  oQ (subOf p 13 6) n195,
  oC [.str n87 1036, .str n195 1037, .str n1 1038, .int 424 0, .int 1 0, .int 0 0, .int 0 0, .int 3 0, .ref 740, .bool true, .int 181 0, .ref 741, .none, .ref 742, .ref 743, .ref 744, .int 1044 0, .int 424 0, .str n1 1045],
  oU (subOf p 13 6) n195 [] .none (.str n158 846) (.ref 745) .none,
  oT [],
  oF [],
  oT [.str n47 1050, .str n160 1051, .str n161 1052, .str n193 1053, .str n194 1054],
  oT [],
  oQ (subOf p 13 7) n196,
  oC [.str n46 1047, .str n196 1048, .str n1 1049, .int 440 0, .int 1 0, .int 0 0, .int 0 0, .int 3 0, .ref 747, .bool true, .int 181 0, .ref 748, .none, .ref 749, .ref 750, .ref 751, .int 1055 0, .int 440 0, .str n1 1056],
  oU (subOf p 13 7) n196 [] .none (.str n158 846) (.ref 752) .none,
  oT [],
  oF [],
  oT [.str n47 1061, .str n55 1062],
  oT [],
  oQ (subOf p 13 8) n197,
  oC [.str n44 1058, .str n197 1059, .str n1 1060, .int 456 0, .int 2 0, .int 0 0, .int 0 0, .int 3 0, .ref 754, .bool true, .int 181 0, .ref 755, .none, .ref 756, .ref 757, .ref 758, .int 1063 0, .int 456 0, .str n1 1064],
  oU (subOf p 13 8) n197 [] .none (.str n158 846) (.ref 759) .none,
  oT [.str n179 1066],
  oD P (.type y2) [(n18, 973, .str n158 846), (n20, 977, .int 345 976), (n179, 978, .none), (n33, 993, .ref 711), (n26, 1000, .ref 718), (n43, 1010, .ref 725), (n39, 1020, .ref 732), (n45, 1035, .ref 739), (n87, 1046, .ref 746), (n46, 1057, .ref 753), (n44, 1065, .ref 760), (n21, 1067, .ref 761), (n4, 1068, .none)] 2,
  ⟨.type y6, none, .cls { name := n178, bases := [.ref 694], mro := [.ref 763, .ref 694, .ref 654, .ref 206, .type y8], ns := 762, qualname := n178, hasDict := true, slotNames := [], subclasses := [], abstract := false, collection := none, hasDel := false }, ⟨[(some (.ref 697)), none, (some (.str n178 966)), (some (.str n178 974)), (some (.builtin y14)), (some (.bool true))]⟩⟩,
  ⟨.type y12, none, .fields ⟨[.ref 763, .ref 763, .ref 763]⟩, ⟨[]⟩⟩,
  ⟨.type y4, none, .fields ⟨[.builtin y13, .ref 763]⟩, ⟨[]⟩⟩]
noncomputable def t17 (p : Program) (P : Params) : BT := insAll (setAll (t16 p P) [(3, oD P (.type y2) [(n3, 165, .str n158 846), (n4, 166, .none), (n5, 167, .none), (n6, 168, .builtin y1), (n7, 169, .none), (n8, 170, .ref 6), (n9, 171, .ref 4), (n10, 173, .str n1 172), (n11, 174, .none), (n12, 193, .ref 21), (n17, 215, .ref 31), (n24, 235, .ref 44), (n25, 407, .ref 206), (n71, 494, .ref 290), (n84, 495, .ref 294), (n85, 681, .ref 453), (n130, 845, .ref 593), (n159, 919, .ref 654), (n171, 965, .ref 694), (n178, 1070, .ref 763), (n198, 1191, .ref 855)] 21), (12, oF [.int 1 0, .int 0 0, .ref 20, .int 5 0, .int 0 0, .ref 27, .int 7 0, .int 0 0, .ref 40, .int 9 0, .int 0 0, .ref 53, .int 74 0, .int 0 0, .ref 216, .int 106 0, .int 0 0, .ref 300, .int 207 0, .int 0 0, .ref 461, .int 295 0, .int 0 0, .ref 601, .int 322 0, .int 0 0, .ref 662, .int 345 0, .int 0 0, .ref 702, .int 458 0, .int 0 0, .ref 772]), (694, ⟨.type y6, none, .cls { name := n171, bases := [.ref 654], mro := [.ref 694, .ref 654, .ref 206, .type y8], ns := 693, qualname := n171, hasDict := true, slotNames := [], subclasses := [.ref 763, .ref 855], abstract := false, collection := none, hasDel := false }, ⟨[(some (.ref 657)), none, (some (.str n171 920)), (some (.str n171 928)), (some (.builtin y14)), (some (.bool true))]⟩⟩)]) 766 [
  oT [.ref 694],
  ⟨.type y4, none, .fields ⟨[.builtin y5, .type y6]⟩, ⟨[]⟩⟩,
  oD P (.type y2) [(n18, 1078, .str n158 846), (n19, 1080, .str n198 1079), (n20, 1082, .int 458 1081), (n86, 1092, .ref 781), (n27, 1099, .ref 788), (n199, 1106, .ref 795), (n33, 1123, .ref 803), (n26, 1130, .ref 810), (n200, 1144, .ref 817), (n39, 1151, .ref 824), (n40, 1158, .ref 831), (n43, 1169, .ref 838), (n44, 1177, .ref 845), (n45, 1186, .ref 852), (n21, 1187, .ref 853), (n201, 1188, .ref 769)] 16,
  ⟨.type y17, none, .cell (some (.ref 855)), ⟨[]⟩⟩,
  oT [],
  oF [.int 460 0, .int 4 0, .ref 780, .int 464 0, .int 4 0, .ref 787, .int 467 0, .int 4 0, .ref 794, .int 471 0, .int 4 0, .ref 802, .int 502 0, .int 4 0, .ref 809, .int 505 0, .int 4 0, .ref 816, .int 527 0, .int 4 0, .ref 823, .int 530 0, .int 4 0, .ref 830, .int 533 0, .int 4 0, .ref 837, .int 544 0, .int 4 0, .ref 844, .int 547 0, .int 4 0, .ref 851],
  oC [.str n198 1073, .str n198 1074, .str n1 1075, .int 458 0, .int 0 0, .int 0 0, .int 0 0, .int 0 0, .ref 770, .bool false, .int 181 0, .ref 771, .none, .none, .none, .none, .int 1076 0, .int 458 0, .str n1 1077],
  ⟨.type y0, none, .plain, ⟨[(some (.ref 772)), (some (.ref 3)), (some (.ref 768)), none, (some (.str n158 846)), none, (some (.ref 0))]⟩⟩,
  oT [.ref 769],
  oT [.str n202 1086],
  oF [],
  oT [.str n47 1087, .str n160 1088, .str n161 1089],
  oT [],
  oQ (subOf p 14 0) n203,
  oC [.str n86 1083, .str n203 1084, .str n1 1085, .int 460 0, .int 3 0, .int 0 0, .int 0 0, .int 3 0, .ref 775, .bool true, .int 181 0, .ref 776, .none, .ref 777, .ref 778, .ref 779, .int 1090 0, .int 460 0, .str n1 1091],
  oU (subOf p 14 0) n203 [(n202, 769)] .none (.str n158 846) (.ref 780) (.ref 774),
  oT [],
  oF [],
  oT [.str n47 1096],
  oT [],
  oQ (subOf p 14 1) n204,
  oC [.str n27 1093, .str n204 1094, .str n1 1095, .int 464 0, .int 1 0, .int 0 0, .int 0 0, .int 3 0, .ref 782, .bool true, .int 181 0, .ref 783, .none, .ref 784, .ref 785, .ref 786, .int 1097 0, .int 464 0, .str n1 1098],
  oU (subOf p 14 1) n204 [] .none (.str n158 846) (.ref 787) .none,
  oT [],
  oF [],
  oT [.str n47 1103],
  oT [],
  oQ (subOf p 14 2) n205,
  oC [.str n199 1100, .str n205 1101, .str n1 1102, .int 467 0, .int 1 0, .int 0 0, .int 0 0, .int 3 0, .ref 789, .bool true, .int 181 0, .ref 790, .none, .ref 791, .ref 792, .ref 793, .int 1104 0, .int 467 0, .str n1 1105],
  oU (subOf p 14 2) n205 [] .none (.str n158 846) (.ref 794) .none,
  oT [.int 0 1107],
  oT [],
  oF [],
  oT [.str n47 1111, .str n55 1112, .str n160 1113, .str n161 1114, .str n180 1115, .str n181 1116, .str n182 1117, .str n183 1118, .str n206 1119, .str n207 1120],
  oT [],
  oQ (subOf p 14 3) n208,
  oC [.str n33 1108, .str n208 1109, .str n1 1110, .int 471 0, .int 2 0, .int 0 0, .int 0 0, .int 3 0, .ref 797, .bool true, .int 181 0, .ref 798, .none, .ref 799, .ref 800, .ref 801, .int 1121 0, .int 471 0, .str n1 1122],
  oU (subOf p 14 3) n208 [] (.ref 796) (.str n158 846) (.ref 802) .none,
  oT [],
  oF [],
  oT [.str n47 1127],
  oT [],
  oQ (subOf p 14 4) n209,
  oC [.str n26 1124, .str n209 1125, .str n1 1126, .int 502 0, .int 1 0, .int 0 0, .int 0 0, .int 3 0, .ref 804, .bool true, .int 181 0, .ref 805, .none, .ref 806, .ref 807, .ref 808, .int 1128 0, .int 502 0, .str n1 1129],
  oU (subOf p 14 4) n209 [] .none (.str n158 846) (.ref 809) .none,
  oT [],
  oF [],
  oT [.str n47 1134, .str n160 1135, .str n161 1136, .str n188 1137, .str n189 1138, .str n149 1139, .str n167 1140, .str n168 1141],
  oT [],
  oQ (subOf p 14 5) n210,
  oC [.str n200 1131, .str n210 1132, .str n1 1133, .int 505 0, .int 1 0, .int 0 0, .int 0 0, .int 3 0, .ref 811, .bool true, .int 181 0, .ref 812, .none, .ref 813, .ref 814, .ref 815, .int 1142 0, .int 505 0, .str n1 1143],
  oU (subOf p 14 5) n210 [] .none (.str n158 846) (.ref 816) .none,
  oT [],
  oF [],
  oT [.str n47 1148],
  oT [],
  oQ (subOf p 14 6) n211,
  oC [.str n39 1145, .str n211 1146, .str n1 1147, .int 527 0, .int 1 0, .int 0 0, .int 0 0, .int 3 0, .ref 818, .bool true, .int 181 0, .ref 819, .none, .ref 820, .ref 821, .ref 822, .int 1149 0, .int 527 0, .str n1 1150],
  oU (subOf p 14 6) n211 [] .none (.str n158 846) (.ref 823) .none,
  oT [],
  oF [],
  oT [.str n47 1155],
  oT [],
  oQ (subOf p 14 7) n212,
  oC [.str n40 1152, .str n212 1153, .str n1 1154, .int 530 0, .int 1 0, .int 0 0, .int 0 0, .int 3 0, .ref 825, .bool true, .int 181 0, .ref 826, .none, .ref 827, .ref 828, .ref 829, .int 1156 0, .int 530 0, .str n1 1157],
  oU (subOf p 14 7) n212 [] .none (.str n158 846) (.ref 830) .none,
  oT [],
  oF [],
  oT [.str n47 1162, .str n39 1163, .str n167 1164, .str n168 1165, .str n213 1166],
  oT [],
  oQ (subOf p 14 8) n214,
  oC [.str n43 1159, .str n214 1160, .str n1 1161, .int 533 0, .int 2 0, .int 0 0, .int 0 0, .int 3 0, .ref 832, .bool true, .int 181 0, .ref 833, .none, .ref 834, .ref 835, .ref 836, .int 1167 0, .int 533 0, .str n1 1168],
  oU (subOf p 14 8) n214 [] .none (.str n158 846) (.ref 837) .none,
  oT [],
  oF [],
  oT [.str n47 1173, .str n55 1174],
  oT [],
  oQ (subOf p 14 9) n215,
  oC [.str n44 1170, .str n215 1171, .str n1 1172, .int 544 0, .int 2 0, .int 0 0, .int 0 0, .int 3 0, .ref 839, .bool true, .int 181 0, .ref 840, .none, .ref 841, .ref 842, .ref 843, .int 1175 0, .int 544 0, .str n1 1176],
  oU (subOf p 14 9) n215 [] .none (.str n158 846) (.ref 844) .none,
  oT [],
  oF [],
  oT [.str n47 1181, .str n190 1182, .str n216 1183],
  oT [],
  oQ (subOf p 14 10) n217,
  oC [.str n45 1178, .str n217 1179, .str n1 1180, .int 547 0, .int 1 0, .int 0 0, .int 0 0, .int 3 0, .ref 846, .bool true, .int 181 0, .ref 847, .none, .ref 848, .ref 849, .ref 850, .int 1184 0, .int 547 0, .str n1 1185],
  oU (subOf p 14 10) n217 [] .none (.str n158 846) (.ref 851) .none,
  oT [],
  oD P (.type y2) [(n18, 1078, .str n158 846), (n20, 1082, .int 458 1081), (n86, 1092, .ref 781), (n27, 1099, .ref 788), (n199, 1106, .ref 795), (n33, 1123, .ref 803), (n26, 1130, .ref 810), (n200, 1144, .ref 817), (n39, 1151, .ref 824), (n40, 1158, .ref 831), (n43, 1169, .ref 838), (n44, 1177, .ref 845), (n45, 1186, .ref 852), (n21, 1187, .ref 853), (n4, 1189, .none)] 3,
  ⟨.type y6, none, .cls { name := n198, bases := [.ref 694], mro := [.ref 855, .ref 694, .ref 654, .ref 206, .type y8], ns := 854, qualname := n198, hasDict := true, slotNames := [], subclasses := [], abstract := false, collection := none, hasDel := false }, ⟨[(some (.ref 766)), none, (some (.str n198 1071)), (some (.str n198 1079)), (some (.builtin y14)), (some (.bool true))]⟩⟩,
  ⟨.type y12, none, .fields ⟨[.ref 855, .ref 855, .ref 855]⟩, ⟨[]⟩⟩,
  ⟨.type y4, none, .fields ⟨[.builtin y13, .ref 855]⟩, ⟨[]⟩⟩]
noncomputable def t18 (p : Program) (P : Params) : BT := insAll (setAll (t17 p P) [(3, oD P (.type y2) [(n3, 165, .str n158 846), (n4, 166, .none), (n5, 167, .none), (n6, 168, .builtin y1), (n7, 169, .none), (n8, 170, .ref 6), (n9, 171, .ref 4), (n10, 173, .str n1 172), (n11, 174, .none), (n12, 193, .ref 21), (n17, 215, .ref 31), (n24, 235, .ref 44), (n25, 407, .ref 206), (n71, 494, .ref 290), (n84, 495, .ref 294), (n85, 681, .ref 453), (n130, 845, .ref 593), (n159, 919, .ref 654), (n171, 965, .ref 694), (n178, 1070, .ref 763), (n198, 1191, .ref 855), (n218, 1336, .ref 982)] 22), (12, oF [.int 1 0, .int 0 0, .ref 20, .int 5 0, .int 0 0, .ref 27, .int 7 0, .int 0 0, .ref 40, .int 9 0, .int 0 0, .ref 53, .int 74 0, .int 0 0, .ref 216, .int 106 0, .int 0 0, .ref 300, .int 207 0, .int 0 0, .ref 461, .int 295 0, .int 0 0, .ref 601, .int 322 0, .int 0 0, .ref 662, .int 345 0, .int 0 0, .ref 702, .int 458 0, .int 0 0, .ref 772, .int 554 0, .int 0 0, .ref 864]), (654, ⟨.type y6, none, .cls { name := n159, bases := [.ref 206], mro := [.ref 654, .ref 206, .type y8], ns := 653, qualname := n159, hasDict := true, slotNames := [], subclasses := [.ref 694, .ref 982], abstract := false, collection := none, hasDel := false }, ⟨[(some (.ref 596)), none, (some (.str n159 848)), (some (.str n159 856)), (some (.builtin y14)), (some (.bool true))]⟩⟩)]) 858 [
  oT [.ref 654],
  ⟨.type y4, none, .fields ⟨[.builtin y5, .type y6]⟩, ⟨[]⟩⟩,
  oD P (.type y2) [(n18, 1199, .str n158 846), (n19, 1201, .str n218 1200), (n20, 1203, .int 554 1202), (n86, 1213, .ref 873), (n27, 1220, .ref 880), (n199, 1227, .ref 887), (n26, 1234, .ref 894), (n200, 1246, .ref 901), (n36, 1253, .ref 908), (n33, 1264, .ref 916), (n37, 1271, .ref 923), (n38, 1278, .ref 930), (n44, 1286, .ref 937), (n39, 1293, .ref 944), (n45, 1302, .ref 951), (n43, 1310, .ref 958), (n87, 1317, .ref 965), (n46, 1324, .ref 972), (n42, 1331, .ref 979), (n21, 1332, .ref 980), (n201, 1333, .ref 861)] 21,
  ⟨.type y17, none, .cell (some (.ref 982)), ⟨[]⟩⟩,
  oT [],
  oF [.int 556 0, .int 4 0, .ref 872, .int 560 0, .int 4 0, .ref 879, .int 563 0, .int 4 0, .ref 886, .int 567 0, .int 4 0, .ref 893, .int 570 0, .int 4 0, .ref 900, .int 588 0, .int 4 0, .ref 907, .int 591 0, .int 4 0, .ref 915, .int 605 0, .int 4 0, .ref 922, .int 608 0, .int 4 0, .ref 929, .int 611 0, .int 4 0, .ref 936, .int 614 0, .int 4 0, .ref 943, .int 617 0, .int 4 0, .ref 950, .int 626 0, .int 4 0, .ref 957, .int 636 0, .int 4 0, .ref 964, .int 639 0, .int 4 0, .ref 971, .int 642 0, .int 4 0, .ref 978],
  oC [.str n218 1194, .str n218 1195, .str n1 1196, .int 554 0, .int 0 0, .int 0 0, .int 0 0, .int 0 0, .ref 862, .bool false, .int 181 0, .ref 863, .none, .none, .none, .none, .int 1197 0, .int 554 0, .str n1 1198],
  ⟨.type y0, none, .plain, ⟨[(some (.ref 864)), (some (.ref 3)), (some (.ref 860)), none, (some (.str n158 846)), none, (some (.ref 0))]⟩⟩,
  oT [.ref 861],
  oT [.str n202 1207],
  oF [],
  oT [.str n47 1208, .str n160 1209, .str n161 1210],
  oT [],
  oQ (subOf p 15 0) n219,
  oC [.str n86 1204, .str n219 1205, .str n1 1206, .int 556 0, .int 3 0, .int 0 0, .int 0 0, .int 3 0, .ref 867, .bool true, .int 181 0, .ref 868, .none, .ref 869, .ref 870, .ref 871, .int 1211 0, .int 556 0, .str n1 1212],
  oU (subOf p 15 0) n219 [(n202, 861)] .none (.str n158 846) (.ref 872) (.ref 866),
  oT [],
  oF [],
  oT [.str n47 1217],
  oT [],
  oQ (subOf p 15 1) n220,
  oC [.str n27 1214, .str n220 1215, .str n1 1216, .int 560 0, .int 1 0, .int 0 0, .int 0 0, .int 3 0, .ref 874, .bool true, .int 181 0, .ref 875, .none, .ref 876, .ref 877, .ref 878, .int 1218 0, .int 560 0, .str n1 1219],
  oU (subOf p 15 1) n220 [] .none (.str n158 846) (.ref 879) .none,
  oT [],
  oF [],
  oT [.str n47 1224],
  oT [],
  oQ (subOf p 15 2) n221,
  oC [.str n199 1221, .str n221 1222, .str n1 1223, .int 563 0, .int 1 0, .int 0 0, .int 0 0, .int 3 0, .ref 881, .bool true, .int 181 0, .ref 882, .none, .ref 883, .ref 884, .ref 885, .int 1225 0, .int 563 0, .str n1 1226],
  oU (subOf p 15 2) n221 [] .none (.str n158 846) (.ref 886) .none,
  oT [],
  oF [],
  oT [.str n47 1231],
  oT [],
  oQ (subOf p 15 3) n222,
  oC [.str n26 1228, .str n222 1229, .str n1 1230, .int 567 0, .int 1 0, .int 0 0, .int 0 0, .int 3 0, .ref 888, .bool true, .int 181 0, .ref 889, .none, .ref 890, .ref 891, .ref 892, .int 1232 0, .int 567 0, .str n1 1233],
  oU (subOf p 15 3) n222 [] .none (.str n158 846) (.ref 893) .none,
  oT [],
  oF [],
  oT [.str n47 1238, .str n223 1239, .str n224 1240, .str n225 1241, .str n149 1242, .str n216 1243],
  oT [],
  oQ (subOf p 15 4) n226,
  oC [.str n200 1235, .str n226 1236, .str n1 1237, .int 570 0, .int 1 0, .int 0 0, .int 0 0, .int 3 0, .ref 895, .bool true, .int 181 0, .ref 896, .none, .ref 897, .ref 898, .ref 899, .int 1244 0, .int 570 0, .str n1 1245],
  oU (subOf p 15 4) n226 [] .none (.str n158 846) (.ref 900) .none,
  oT [],
  oF [],
  oT [.str n47 1250],
  oT [],
  oQ (subOf p 15 5) n227,
  oC [.str n36 1247, .str n227 1248, .str n1 1249, .int 588 0, .int 1 0, .int 0 0, .int 0 0, .int 3 0, .ref 902, .bool true, .int 181 0, .ref 903, .none, .ref 904, .ref 905, .ref 906, .int 1251 0, .int 588 0, .str n1 1252],
  oU (subOf p 15 5) n227 [] .none (.str n158 846) (.ref 907) .none,
  oT [.int 0 1254],
  oT [],
  oF [],
  oT [.str n47 1258, .str n55 1259, .str n160 1260, .str n161 1261],
  oT [],
  oQ (subOf p 15 6) n228,
  oC [.str n33 1255, .str n228 1256, .str n1 1257, .int 591 0, .int 2 0, .int 0 0, .int 0 0, .int 3 0, .ref 910, .bool true, .int 181 0, .ref 911, .none, .ref 912, .ref 913, .ref 914, .int 1262 0, .int 591 0, .str n1 1263],
  oU (subOf p 15 6) n228 [] (.ref 909) (.str n158 846) (.ref 915) .none,
  oT [],
  oF [],
  oT [.str n47 1268],
  oT [],
  oQ (subOf p 15 7) n229,
  oC [.str n37 1265, .str n229 1266, .str n1 1267, .int 605 0, .int 1 0, .int 0 0, .int 0 0, .int 3 0, .ref 917, .bool true, .int 181 0, .ref 918, .none, .ref 919, .ref 920, .ref 921, .int 1269 0, .int 605 0, .str n1 1270],
  oU (subOf p 15 7) n229 [] .none (.str n158 846) (.ref 922) .none,
  oT [],
  oF [],
  oT [.str n47 1275],
  oT [],
  oQ (subOf p 15 8) n230,
  oC [.str n38 1272, .str n230 1273, .str n1 1274, .int 608 0, .int 1 0, .int 0 0, .int 0 0, .int 3 0, .ref 924, .bool true, .int 181 0, .ref 925, .none, .ref 926, .ref 927, .ref 928, .int 1276 0, .int 608 0, .str n1 1277],
  oU (subOf p 15 8) n230 [] .none (.str n158 846) (.ref 929) .none,
  oT [],
  oF [],
  oT [.str n47 1282, .str n55 1283],
  oT [],
  oQ (subOf p 15 9) n231,
  oC [.str n44 1279, .str n231 1280, .str n1 1281, .int 611 0, .int 2 0, .int 0 0, .int 0 0, .int 3 0, .ref 931, .bool true, .int 181 0, .ref 932, .none, .ref 933, .ref 934, .ref 935, .int 1284 0, .int 611 0, .str n1 1285],
  oU (subOf p 15 9) n231 [] .none (.str n158 846) (.ref 936) .none,
  oT [],
  oF [],
  oT [.str n47 1290],
  oT [],
  oQ (subOf p 15 10) n232,
  oC [.str n39 1287, .str n232 1288, .str n1 1289, .int 614 0, .int 1 0, .int 0 0, .int 0 0, .int 3 0, .ref 938, .bool true, .int 181 0, .ref 939, .none, .ref 940, .ref 941, .ref 942, .int 1291 0, .int 614 0, .str n1 1292],
  oU (subOf p 15 10) n232 [] .none (.str n158 846) (.ref 943) .none,
  oT [],
  oF [],
  oT [.str n47 1297, .str n190 1298, .str n216 1299],
  oT [],
  oQ (subOf p 15 11) n233,
  oC [.str n45 1294, .str n233 1295, .str n1 1296, .int 617 0, .int 1 0, .int 0 0, .int 0 0, .int 3 0, .ref 945, .bool true, .int 181 0, .ref 946, .none, .ref 947, .ref 948, .ref 949, .int 1300 0, .int 617 0, .str n1 1301],
  oU (subOf p 15 11) n233 [] .none (.str n158 846) (.ref 950) .none,
  oT [],
  oF [],
  oT [.str n47 1306, .str n39 1307],
  oT [],
  oQ (subOf p 15 12) n234,
  oC [.str n43 1303, .str n234 1304, .str n1 1305, .int 626 0, .int 2 0, .int 0 0, .int 0 0, .int 3 0, .ref 952, .bool true, .int 181 0, .ref 953, .none, .ref 954, .ref 955, .ref 956, .int 1308 0, .int 626 0, .str n1 1309],
  oU (subOf p 15 12) n234 [] .none (.str n158 846) (.ref 957) .none,
  oT [],
  oF [],
  oT [.str n47 1314],
  oT [],
  oQ (subOf p 15 13) n235,
  oC [.str n87 1311, .str n235 1312, .str n1 1313, .int 636 0, .int 1 0, .int 0 0, .int 0 0, .int 3 0, .ref 959, .bool true, .int 181 0, .ref 960, .none, .ref 961, .ref 962, .ref 963, .int 1315 0, .int 636 0, .str n1 1316],
  oU (subOf p 15 13) n235 [] .none (.str n158 846) (.ref 964) .none,
  oT [],
  oF [],
  oT [.str n47 1321],
  oT [],
  oQ (subOf p 15 14) n236,
  oC [.str n46 1318, .str n236 1319, .str n1 1320, .int 639 0, .int 1 0, .int 0 0, .int 0 0, .int 3 0, .ref 966, .bool true, .int 181 0, .ref 967, .none, .ref 968, .ref 969, .ref 970, .int 1322 0, .int 639 0, .str n1 1323],
  oU (subOf p 15 14) n236 [] .none (.str n158 846) (.ref 971) .none,
  oT [],
  oF [],
  oT [.str n47 1328],
  oT [],
  oQ (subOf p 15 15) n237,
  oC [.str n42 1325, .str n237 1326, .str n1 1327, .int 642 0, .int 1 0, .int 0 0, .int 0 0, .int 3 0, .ref 973, .bool true, .int 181 0, .ref 974, .none, .ref 975, .ref 976, .ref 977, .int 1329 0, .int 642 0, .str n1 1330],
  oU (subOf p 15 15) n237 [] .none (.str n158 846) (.ref 978) .none,
  oT [],
  oD P (.type y2) [(n18, 1199, .str n158 846), (n20, 1203, .int 554 1202), (n86, 1213, .ref 873), (n27, 1220, .ref 880), (n199, 1227, .ref 887), (n26, 1234, .ref 894), (n200, 1246, .ref 901), (n36, 1253, .ref 908), (n33, 1264, .ref 916), (n37, 1271, .ref 923), (n38, 1278, .ref 930), (n44, 1286, .ref 937), (n39, 1293, .ref 944), (n45, 1302, .ref 951), (n43, 1310, .ref 958), (n87, 1317, .ref 965), (n46, 1324, .ref 972), (n42, 1331, .ref 979), (n21, 1332, .ref 980), (n4, 1334, .none)] 3,
  ⟨.type y6, none, .cls { name := n218, bases := [.ref 654], mro := [.ref 982, .ref 654, .ref 206, .type y8], ns := 981, qualname := n218, hasDict := true, slotNames := [], subclasses := [], abstract := false, collection := none, hasDel := false }, ⟨[(some (.ref 858)), none, (some (.str n218 1192)), (some (.str n218 1200)), (some (.builtin y14)), (some (.bool true))]⟩⟩,
  ⟨.type y12, none, .fields ⟨[.ref 982, .ref 982, .ref 982]⟩, ⟨[]⟩⟩,
  ⟨.type y4, none, .fields ⟨[.builtin y13, .ref 982]⟩, ⟨[]⟩⟩]
noncomputable def t19 (p : Program) (P : Params) : BT := insAll (setAll (t18 p P) [(3, oD P (.type y2) [(n3, 165, .str n158 846), (n4, 166, .none), (n5, 167, .none), (n6, 168, .builtin y1), (n7, 169, .none), (n8, 170, .ref 6), (n9, 171, .ref 4), (n10, 173, .str n1 172), (n11, 174, .none), (n12, 193, .ref 21), (n17, 215, .ref 31), (n24, 235, .ref 44), (n25, 407, .ref 206), (n71, 494, .ref 290), (n84, 495, .ref 294), (n85, 681, .ref 453), (n130, 845, .ref 593), (n159, 919, .ref 654), (n171, 965, .ref 694), (n178, 1070, .ref 763), (n198, 1191, .ref 855), (n218, 1336, .ref 982), (n238, 1456, .ref 1081)] 23), (12, oF [.int 1 0, .int 0 0, .ref 20, .int 5 0, .int 0 0, .ref 27, .int 7 0, .int 0 0, .ref 40, .int 9 0, .int 0 0, .ref 53, .int 74 0, .int 0 0, .ref 216, .int 106 0, .int 0 0, .ref 300, .int 207 0, .int 0 0, .ref 461, .int 295 0, .int 0 0, .ref 601, .int 322 0, .int 0 0, .ref 662, .int 345 0, .int 0 0, .ref 702, .int 458 0, .int 0 0, .ref 772, .int 554 0, .int 0 0, .ref 864, .int 644 0, .int 0 0, .ref 991]), (694, ⟨.type y6, none, .cls { name := n171, bases := [.ref 654], mro := [.ref 694, .ref 654, .ref 206, .type y8], ns := 693, qualname := n171, hasDict := true, slotNames := [], subclasses := [.ref 763, .ref 855, .ref 1081], abstract := false, collection := none, hasDel := false }, ⟨[(some (.ref 657)), none, (some (.str n171 920)), (some (.str n171 928)), (some (.builtin y14)), (some (.bool true))]⟩⟩)]) 985 [
  oT [.ref 694],
  ⟨.type y4, none, .fields ⟨[.builtin y5, .type y6]⟩, ⟨[]⟩⟩,
  oD P (.type y2) [(n18, 1344, .str n158 846), (n19, 1346, .str n238 1345), (n20, 1348, .int 644 1347), (n86, 1358, .ref 1000), (n27, 1365, .ref 1007), (n239, 1374, .ref 1014), (n26, 1381, .ref 1021), (n39, 1388, .ref 1028), (n45, 1397, .ref 1035), (n43, 1407, .ref 1042), (n33, 1422, .ref 1050), (n44, 1430, .ref 1057), (n87, 1437, .ref 1064), (n46, 1444, .ref 1071), (n42, 1451, .ref 1078), (n21, 1452, .ref 1079), (n201, 1453, .ref 988)] 17,
  ⟨.type y17, none, .cell (some (.ref 1081)), ⟨[]⟩⟩,
  oT [],
  oF [.int 646 0, .int 4 0, .ref 999, .int 650 0, .int 4 0, .ref 1006, .int 653 0, .int 4 0, .ref 1013, .int 659 0, .int 4 0, .ref 1020, .int 662 0, .int 4 0, .ref 1027, .int 665 0, .int 4 0, .ref 1034, .int 674 0, .int 4 0, .ref 1041, .int 683 0, .int 4 0, .ref 1049, .int 704 0, .int 4 0, .ref 1056, .int 707 0, .int 4 0, .ref 1063, .int 713 0, .int 4 0, .ref 1070, .int 719 0, .int 4 0, .ref 1077],
  oC [.str n238 1339, .str n238 1340, .str n1 1341, .int 644 0, .int 0 0, .int 0 0, .int 0 0, .int 0 0, .ref 989, .bool false, .int 181 0, .ref 990, .none, .none, .none, .none, .int 1342 0, .int 644 0, .str n1 1343],
  ⟨.type y0, none, .plain, ⟨[(some (.ref 991)), (some (.ref 3)), (some (.ref 987)), none, (some (.str n158 846)), none, (some (.ref 0))]⟩⟩,
  oT [.ref 988],
  oT [.str n202 1352],
  oF [],
  oT [.str n47 1353, .str n160 1354, .str n161 1355],
  oT [],
  oQ (subOf p 16 0) n240,
  oC [.str n86 1349, .str n240 1350, .str n1 1351, .int 646 0, .int 3 0, .int 0 0, .int 0 0, .int 3 0, .ref 994, .bool true, .int 181 0, .ref 995, .none, .ref 996, .ref 997, .ref 998, .int 1356 0, .int 646 0, .str n1 1357],
  oU (subOf p 16 0) n240 [(n202, 988)] .none (.str n158 846) (.ref 999) (.ref 993),
  oT [],
  oF [],
  oT [.str n47 1362],
  oT [],
  oQ (subOf p 16 1) n241,
  oC [.str n27 1359, .str n241 1360, .str n1 1361, .int 650 0, .int 1 0, .int 0 0, .int 0 0, .int 3 0, .ref 1001, .bool true, .int 181 0, .ref 1002, .none, .ref 1003, .ref 1004, .ref 1005, .int 1363 0, .int 650 0, .str n1 1364],
  oU (subOf p 16 1) n241 [] .none (.str n158 846) (.ref 1006) .none,
  oT [],
  oF [],
  oT [.str n47 1369, .str n160 1370, .str n161 1371],
  oT [],
  oQ (subOf p 16 2) n242,
  oC [.str n239 1366, .str n242 1367, .str n1 1368, .int 653 0, .int 1 0, .int 0 0, .int 0 0, .int 3 0, .ref 1008, .bool true, .int 181 0, .ref 1009, .none, .ref 1010, .ref 1011, .ref 1012, .int 1372 0, .int 653 0, .str n1 1373],
  oU (subOf p 16 2) n242 [] .none (.str n158 846) (.ref 1013) .none,
  oT [],
  oF [],
  oT [.str n47 1378],
  oT [],
  oQ (subOf p 16 3) n243,
  oC [.str n26 1375, .str n243 1376, .str n1 1377, .int 659 0, .int 1 0, .int 0 0, .int 0 0, .int 3 0, .ref 1015, .bool true, .int 181 0, .ref 1016, .none, .ref 1017, .ref 1018, .ref 1019, .int 1379 0, .int 659 0, .str n1 1380],
  oU (subOf p 16 3) n243 [] .none (.str n158 846) (.ref 1020) .none,
  oT [],
  oF [],
  oT [.str n47 1385],
  oT [],
  oQ (subOf p 16 4) n244,
  oC [.str n39 1382, .str n244 1383, .str n1 1384, .int 662 0, .int 1 0, .int 0 0, .int 0 0, .int 3 0, .ref 1022, .bool true, .int 181 0, .ref 1023, .none, .ref 1024, .ref 1025, .ref 1026, .int 1386 0, .int 662 0, .str n1 1387],
  oU (subOf p 16 4) n244 [] .none (.str n158 846) (.ref 1027) .none,
  oT [],
  oF [],
  oT [.str n47 1392, .str n190 1393, .str n191 1394],
  oT [],
  oQ (subOf p 16 5) n245,
  oC [.str n45 1389, .str n245 1390, .str n1 1391, .int 665 0, .int 1 0, .int 0 0, .int 0 0, .int 3 0, .ref 1029, .bool true, .int 181 0, .ref 1030, .none, .ref 1031, .ref 1032, .ref 1033, .int 1395 0, .int 665 0, .str n1 1396],
  oU (subOf p 16 5) n245 [] .none (.str n158 846) (.ref 1034) .none,
  oT [],
  oF [],
  oT [.str n47 1401, .str n39 1402, .str n167 1403, .str n168 1404],
  oT [],
  oQ (subOf p 16 6) n246,
  oC [.str n43 1398, .str n246 1399, .str n1 1400, .int 674 0, .int 2 0, .int 0 0, .int 0 0, .int 3 0, .ref 1036, .bool true, .int 181 0, .ref 1037, .none, .ref 1038, .ref 1039, .ref 1040, .int 1405 0, .int 674 0, .str n1 1406],
  oU (subOf p 16 6) n246 [] .none (.str n158 846) (.ref 1041) .none,
  oT [.int 0 1408],
  oT [],
  oF [],
  oT [.str n47 1412, .str n55 1413, .str n160 1414, .str n161 1415, .str n180 1416, .str n181 1417, .str n247 1418, .str n248 1419],
  oT [],
  oQ (subOf p 16 7) n249,
  oC [.str n33 1409, .str n249 1410, .str n1 1411, .int 683 0, .int 2 0, .int 0 0, .int 0 0, .int 3 0, .ref 1044, .bool true, .int 181 0, .ref 1045, .none, .ref 1046, .ref 1047, .ref 1048, .int 1420 0, .int 683 0, .str n1 1421],
  oU (subOf p 16 7) n249 [] (.ref 1043) (.str n158 846) (.ref 1049) .none,
  oT [],
  oF [],
  oT [.str n47 1426, .str n55 1427],
  oT [],
  oQ (subOf p 16 8) n250,
  oC [.str n44 1423, .str n250 1424, .str n1 1425, .int 704 0, .int 2 0, .int 0 0, .int 0 0, .int 3 0, .ref 1051, .bool true, .int 181 0, .ref 1052, .none, .ref 1053, .ref 1054, .ref 1055, .int 1428 0, .int 704 0, .str n1 1429],
  oU (subOf p 16 8) n250 [] .none (.str n158 846) (.ref 1056) .none,
  oT [],
  oF [],
  oT [.str n47 1434],
  oT [],
  oQ (subOf p 16 9) n251,
  oC [.str n87 1431, .str n251 1432, .str n1 1433, .int 707 0, .int 1 0, .int 0 0, .int 0 0, .int 3 0, .ref 1058, .bool true, .int 181 0, .ref 1059, .none, .ref 1060, .ref 1061, .ref 1062, .int 1435 0, .int 707 0, .str n1 1436],
  oU (subOf p 16 9) n251 [] .none (.str n158 846) (.ref 1063) .none,
  oT [],
  oF [],
  oT [.str n47 1441],
  oT [],
  oQ (subOf p 16 10) n252,
  oC [.str n46 1438, .str n252 1439, .str n1 1440, .int 713 0, .int 1 0, .int 0 0, .int 0 0, .int 3 0, .ref 1065, .bool true, .int 181 0, .ref 1066, .none, .ref 1067, .ref 1068, .ref 1069, .int 1442 0, .int 713 0, .str n1 1443],
  oU (subOf p 16 10) n252 [] .none (.str n158 846) (.ref 1070) .none,
  oT [],
  oF [],
  oT [.str n47 1448],
  oT [],
  oQ (subOf p 16 11) n253,
  oC [.str n42 1445, .str n253 1446, .str n1 1447, .int 719 0, .int 1 0, .int 0 0, .int 0 0, .int 3 0, .ref 1072, .bool true, .int 181 0, .ref 1073, .none, .ref 1074, .ref 1075, .ref 1076, .int 1449 0, .int 719 0, .str n1 1450],
  oU (subOf p 16 11) n253 [] .none (.str n158 846) (.ref 1077) .none,
  oT [],
  oD P (.type y2) [(n18, 1344, .str n158 846), (n20, 1348, .int 644 1347), (n86, 1358, .ref 1000), (n27, 1365, .ref 1007), (n239, 1374, .ref 1014), (n26, 1381, .ref 1021), (n39, 1388, .ref 1028), (n45, 1397, .ref 1035), (n43, 1407, .ref 1042), (n33, 1422, .ref 1050), (n44, 1430, .ref 1057), (n87, 1437, .ref 1064), (n46, 1444, .ref 1071), (n42, 1451, .ref 1078), (n21, 1452, .ref 1079), (n4, 1454, .none)] 3,
  ⟨.type y6, none, .cls { name := n238, bases := [.ref 694], mro := [.ref 1081, .ref 694, .ref 654, .ref 206, .type y8], ns := 1080, qualname := n238, hasDict := true, slotNames := [], subclasses := [], abstract := false, collection := none, hasDel := false }, ⟨[(some (.ref 985)), none, (some (.str n238 1337)), (some (.str n238 1345)), (some (.builtin y14)), (some (.bool true))]⟩⟩,
  ⟨.type y12, none, .fields ⟨[.ref 1081, .ref 1081, .ref 1081]⟩, ⟨[]⟩⟩,
  ⟨.type y4, none, .fields ⟨[.builtin y13, .ref 1081]⟩, ⟨[]⟩⟩]
noncomputable def t20 (p : Program) (P : Params) : BT := insAll (setAll (t19 p P) [(3, oD P (.type y2) [(n3, 165, .str n254 1457), (n4, 166, .none), (n5, 167, .none), (n6, 168, .builtin y1), (n7, 169, .none), (n8, 170, .ref 6), (n9, 171, .ref 4), (n10, 173, .str n1 172), (n11, 174, .none), (n12, 193, .ref 21), (n17, 215, .ref 31), (n24, 235, .ref 44), (n25, 407, .ref 206), (n71, 494, .ref 290), (n84, 495, .ref 294), (n85, 681, .ref 453), (n130, 845, .ref 593), (n159, 919, .ref 654), (n171, 965, .ref 694), (n178, 1070, .ref 763), (n198, 1191, .ref 855), (n218, 1336, .ref 982), (n238, 1456, .ref 1081)] 23)]) 1084 []
noncomputable def t21 (p : Program) (P : Params) : BT := insAll (setAll (t20 p P) [(3, oD P (.type y2) [(n3, 165, .str n254 1457), (n4, 166, .none), (n5, 167, .none), (n6, 168, .builtin y1), (n7, 169, .none), (n8, 170, .ref 6), (n9, 171, .ref 4), (n10, 173, .str n1 172), (n11, 174, .none), (n12, 193, .ref 21), (n17, 215, .ref 31), (n24, 235, .ref 44), (n25, 407, .ref 206), (n71, 494, .ref 290), (n84, 495, .ref 294), (n85, 681, .ref 453), (n130, 845, .ref 593), (n159, 919, .ref 654), (n171, 965, .ref 694), (n178, 1070, .ref 763), (n198, 1191, .ref 855), (n218, 1336, .ref 982), (n238, 1456, .ref 1081), (n255, 1508, .ref 1121)] 24), (12, oF [.int 1 0, .int 0 0, .ref 20, .int 5 0, .int 0 0, .ref 27, .int 7 0, .int 0 0, .ref 40, .int 9 0, .int 0 0, .ref 53, .int 74 0, .int 0 0, .ref 216, .int 106 0, .int 0 0, .ref 300, .int 207 0, .int 0 0, .ref 461, .int 295 0, .int 0 0, .ref 601, .int 322 0, .int 0 0, .ref 662, .int 345 0, .int 0 0, .ref 702, .int 458 0, .int 0 0, .ref 772, .int 554 0, .int 0 0, .ref 864, .int 644 0, .int 0 0, .ref 991, .int 722 0, .int 0 0, .ref 1089])]) 1084 [
  oT [.type y8],
  ⟨.type y4, none, .fields ⟨[.builtin y5, .type y6]⟩, ⟨[]⟩⟩,
  oD P (.type y2) [(n18, 1466, .str n254 1457), (n19, 1468, .str n255 1467), (n20, 1470, .int 722 1469), (n36, 1477, .ref 1097), (n46, 1485, .ref 1104), (n37, 1492, .ref 1111), (n38, 1500, .ref 1118), (n21, 1501, .ref 1119)] 8,
  oT [],
  oF [.int 724 0, .int 4 0, .ref 1096, .int 727 0, .int 4 0, .ref 1103, .int 730 0, .int 4 0, .ref 1110, .int 733 0, .int 4 0, .ref 1117],
  oC [.str n255 1461, .str n255 1462, .str n1 1463, .int 722 0, .int 0 0, .int 0 0, .int 0 0, .int 0 0, .ref 1087, .bool false, .int 181 0, .ref 1088, .none, .none, .none, .none, .int 1464 0, .int 722 0, .str n1 1465],
  ⟨.type y0, none, .plain, ⟨[(some (.ref 1089)), (some (.ref 3)), (some (.ref 1086)), none, (some (.str n254 1457)), none, (some (.ref 0))]⟩⟩,
  oT [],
  oF [],
  oT [.str n47 1474],
  oT [],
  oQ (subOf p 18 0) n256,
  oC [.str n36 1471, .str n256 1472, .str n1 1473, .int 724 0, .int 1 0, .int 0 0, .int 0 0, .int 3 0, .ref 1091, .bool true, .int 181 0, .ref 1092, .none, .ref 1093, .ref 1094, .ref 1095, .int 1475 0, .int 724 0, .str n1 1476],
  oU (subOf p 18 0) n256 [] .none (.str n254 1457) (.ref 1096) .none,
  oT [],
  oF [],
  oT [.str n47 1481, .str n257 1482],
  oT [],
  oQ (subOf p 18 1) n258,
  oC [.str n46 1478, .str n258 1479, .str n1 1480, .int 727 0, .int 2 0, .int 0 0, .int 0 0, .int 3 0, .ref 1098, .bool true, .int 181 0, .ref 1099, .none, .ref 1100, .ref 1101, .ref 1102, .int 1483 0, .int 727 0, .str n1 1484],
  oU (subOf p 18 1) n258 [] .none (.str n254 1457) (.ref 1103) .none,
  oT [],
  oF [],
  oT [.str n47 1489],
  oT [],
  oQ (subOf p 18 2) n259,
  oC [.str n37 1486, .str n259 1487, .str n1 1488, .int 730 0, .int 1 0, .int 0 0, .int 0 0, .int 3 0, .ref 1105, .bool true, .int 181 0, .ref 1106, .none, .ref 1107, .ref 1108, .ref 1109, .int 1490 0, .int 730 0, .str n1 1491],
  oU (subOf p 18 2) n259 [] .none (.str n254 1457) (.ref 1110) .none,
  oT [],
  oF [],
  oT [.str n47 1496, .str n257 1497],
  oT [],
  oQ (subOf p 18 3) n260,
  oC [.str n38 1493, .str n260 1494, .str n1 1495, .int 733 0, .int 2 0, .int 0 0, .int 0 0, .int 3 0, .ref 1112, .bool true, .int 181 0, .ref 1113, .none, .ref 1114, .ref 1115, .ref 1116, .int 1498 0, .int 733 0, .str n1 1499],
  oU (subOf p 18 3) n260 [] .none (.str n254 1457) (.ref 1117) .none,
  oT [],
  oD P (.type y2) [(n18, 1466, .str n254 1457), (n20, 1470, .int 722 1469), (n36, 1477, .ref 1097), (n46, 1485, .ref 1104), (n37, 1492, .ref 1111), (n38, 1500, .ref 1118), (n21, 1501, .ref 1119), (n70, 1503, .ref 1122), (n22, 1505, .ref 1123), (n4, 1506, .none)] 4,
  ⟨.type y6, none, .cls { name := n255, bases := [.type y8], mro := [.ref 1121, .type y8], ns := 1120, qualname := n255, hasDict := true, slotNames := [], subclasses := [], abstract := false, collection := none, hasDel := false }, ⟨[(some (.ref 1084)), none, (some (.str n255 1459)), (some (.str n255 1467)), (some (.builtin y14)), (some (.bool true))]⟩⟩,
  ⟨.type y10, none, .fields ⟨[.str n70 1502, .ref 1121, .builtin y15, .builtin y16]⟩, ⟨[]⟩⟩,
  ⟨.type y10, none, .fields ⟨[.str n22 1504, .ref 1121, .builtin y11, .none]⟩, ⟨[]⟩⟩,
  ⟨.type y12, none, .fields ⟨[.ref 1121, .ref 1121, .ref 1121]⟩, ⟨[]⟩⟩,
  ⟨.type y4, none, .fields ⟨[.builtin y13, .ref 1121]⟩, ⟨[]⟩⟩]
noncomputable def t22 (p : Program) (P : Params) : BT := insAll (setAll (t21 p P) [(3, oD P (.type y2) [(n3, 165, .str n254 1457), (n4, 166, .none), (n5, 167, .none), (n6, 168, .builtin y1), (n7, 169, .none), (n8, 170, .ref 6), (n9, 171, .ref 4), (n10, 173, .str n1 172), (n11, 174, .none), (n12, 193, .ref 21), (n17, 215, .ref 31), (n24, 235, .ref 44), (n25, 407, .ref 206), (n71, 494, .ref 290), (n84, 495, .ref 294), (n85, 681, .ref 453), (n130, 845, .ref 593), (n159, 919, .ref 654), (n171, 965, .ref 694), (n178, 1070, .ref 763), (n198, 1191, .ref 855), (n218, 1336, .ref 982), (n238, 1456, .ref 1081), (n255, 1508, .ref 1121), (n261, 1563, .ref 1170)] 25), (12, oF [.int 1 0, .int 0 0, .ref 20, .int 5 0, .int 0 0, .ref 27, .int 7 0, .int 0 0, .ref 40, .int 9 0, .int 0 0, .ref 53, .int 74 0, .int 0 0, .ref 216, .int 106 0, .int 0 0, .ref 300, .int 207 0, .int 0 0, .ref 461, .int 295 0, .int 0 0, .ref 601, .int 322 0, .int 0 0, .ref 662, .int 345 0, .int 0 0, .ref 702, .int 458 0, .int 0 0, .ref 772, .int 554 0, .int 0 0, .ref 864, .int 644 0, .int 0 0, .ref 991, .int 722 0, .int 0 0, .ref 1089, .int 735 0, .int 0 0, .ref 1131]), (1121, ⟨.type y6, none, .cls { name := n255, bases := [.type y8], mro := [.ref 1121, .type y8], ns := 1120, qualname := n255, hasDict := true, slotNames := [], subclasses := [.ref 1170], abstract := false, collection := none, hasDel := false }, ⟨[(some (.ref 1084)), none, (some (.str n255 1459)), (some (.str n255 1467)), (some (.builtin y14)), (some (.bool true))]⟩⟩)]) 1126 [
  oT [.ref 1121],
  ⟨.type y4, none, .fields ⟨[.builtin y5, .type y6]⟩, ⟨[]⟩⟩,
  oD P (.type y2) [(n18, 1516, .str n254 1457), (n19, 1518, .str n261 1517), (n20, 1520, .int 735 1519), (n86, 1528, .ref 1139), (n36, 1535, .ref 1146), (n46, 1543, .ref 1153), (n37, 1550, .ref 1160), (n38, 1558, .ref 1167), (n21, 1560, .ref 1168)] 9,
  oT [],
  oF [.int 737 0, .int 4 0, .ref 1138, .int 740 0, .int 4 0, .ref 1145, .int 743 0, .int 4 0, .ref 1152, .int 746 0, .int 4 0, .ref 1159, .int 749 0, .int 4 0, .ref 1166],
  oC [.str n261 1511, .str n261 1512, .str n1 1513, .int 735 0, .int 0 0, .int 0 0, .int 0 0, .int 0 0, .ref 1129, .bool false, .int 181 0, .ref 1130, .none, .none, .none, .none, .int 1514 0, .int 735 0, .str n1 1515],
  ⟨.type y0, none, .plain, ⟨[(some (.ref 1131)), (some (.ref 3)), (some (.ref 1128)), none, (some (.str n254 1457)), none, (some (.ref 0))]⟩⟩,
  oT [],
  oF [],
  oT [.str n47 1524, .str n262 1525],
  oT [],
  oQ (subOf p 19 0) n263,
  oC [.str n86 1521, .str n263 1522, .str n1 1523, .int 737 0, .int 2 0, .int 0 0, .int 0 0, .int 3 0, .ref 1133, .bool true, .int 181 0, .ref 1134, .none, .ref 1135, .ref 1136, .ref 1137, .int 1526 0, .int 737 0, .str n1 1527],
  oU (subOf p 19 0) n263 [] .none (.str n254 1457) (.ref 1138) .none,
  oT [],
  oF [],
  oT [.str n47 1532],
  oT [],
  oQ (subOf p 19 1) n264,
  oC [.str n36 1529, .str n264 1530, .str n1 1531, .int 740 0, .int 1 0, .int 0 0, .int 0 0, .int 3 0, .ref 1140, .bool true, .int 181 0, .ref 1141, .none, .ref 1142, .ref 1143, .ref 1144, .int 1533 0, .int 740 0, .str n1 1534],
  oU (subOf p 19 1) n264 [] .none (.str n254 1457) (.ref 1145) .none,
  oT [],
  oF [],
  oT [.str n47 1539, .str n257 1540],
  oT [],
  oQ (subOf p 19 2) n265,
  oC [.str n46 1536, .str n265 1537, .str n1 1538, .int 743 0, .int 2 0, .int 0 0, .int 0 0, .int 3 0, .ref 1147, .bool true, .int 181 0, .ref 1148, .none, .ref 1149, .ref 1150, .ref 1151, .int 1541 0, .int 743 0, .str n1 1542],
  oU (subOf p 19 2) n265 [] .none (.str n254 1457) (.ref 1152) .none,
  oT [],
  oF [],
  oT [.str n47 1547],
  oT [],
  oQ (subOf p 19 3) n266,
  oC [.str n37 1544, .str n266 1545, .str n1 1546, .int 746 0, .int 1 0, .int 0 0, .int 0 0, .int 3 0, .ref 1154, .bool true, .int 181 0, .ref 1155, .none, .ref 1156, .ref 1157, .ref 1158, .int 1548 0, .int 746 0, .str n1 1549],
  oU (subOf p 19 3) n266 [] .none (.str n254 1457) (.ref 1159) .none,
  oT [],
  oF [],
  oT [.str n47 1554, .str n257 1555],
  oT [],
  oQ (subOf p 19 4) n267,
  oC [.str n38 1551, .str n267 1552, .str n1 1553, .int 749 0, .int 2 0, .int 0 0, .int 0 0, .int 3 0, .ref 1161, .bool true, .int 181 0, .ref 1162, .none, .ref 1163, .ref 1164, .ref 1165, .int 1556 0, .int 749 0, .str n1 1557],
  oU (subOf p 19 4) n267 [] .none (.str n254 1457) (.ref 1166) .none,
  oT [.str n268 1559],
  oD P (.type y2) [(n18, 1516, .str n254 1457), (n20, 1520, .int 735 1519), (n86, 1528, .ref 1139), (n36, 1535, .ref 1146), (n46, 1543, .ref 1153), (n37, 1550, .ref 1160), (n38, 1558, .ref 1167), (n21, 1560, .ref 1168), (n4, 1561, .none)] 2,
  ⟨.type y6, none, .cls { name := n261, bases := [.ref 1121], mro := [.ref 1170, .ref 1121, .type y8], ns := 1169, qualname := n261, hasDict := true, slotNames := [], subclasses := [], abstract := false, collection := none, hasDel := false }, ⟨[(some (.ref 1126)), none, (some (.str n261 1509)), (some (.str n261 1517)), (some (.builtin y14)), (some (.bool true))]⟩⟩,
  ⟨.type y12, none, .fields ⟨[.ref 1170, .ref 1170, .ref 1170]⟩, ⟨[]⟩⟩,
  ⟨.type y4, none, .fields ⟨[.builtin y13, .ref 1170]⟩, ⟨[]⟩⟩]
noncomputable def t23 (p : Program) (P : Params) : BT := insAll (setAll (t22 p P) [(3, oD P (.type y2) [(n3, 165, .str n269 1564), (n4, 166, .none), (n5, 167, .none), (n6, 168, .builtin y1), (n7, 169, .none), (n8, 170, .ref 6), (n9, 171, .ref 4), (n10, 173, .str n1 172), (n11, 174, .none), (n12, 193, .ref 21), (n17, 215, .ref 31), (n24, 235, .ref 44), (n25, 407, .ref 206), (n71, 494, .ref 290), (n84, 495, .ref 294), (n85, 681, .ref 453), (n130, 845, .ref 593), (n159, 919, .ref 654), (n171, 965, .ref 694), (n178, 1070, .ref 763), (n198, 1191, .ref 855), (n218, 1336, .ref 982), (n238, 1456, .ref 1081), (n255, 1508, .ref 1121), (n261, 1563, .ref 1170)] 25)]) 1173 []
noncomputable def t24 (p : Program) (P : Params) : BT := insAll (setAll (t23 p P) [(3, oD P (.type y2) [(n3, 165, .str n269 1564), (n4, 166, .none), (n5, 167, .none), (n6, 168, .builtin y1), (n7, 169, .none), (n8, 170, .ref 6), (n9, 171, .ref 4), (n10, 173, .str n1 172), (n11, 174, .none), (n12, 193, .ref 21), (n17, 215, .ref 31), (n24, 235, .ref 44), (n25, 407, .ref 206), (n71, 494, .ref 290), (n84, 495, .ref 294), (n85, 681, .ref 453), (n130, 845, .ref 593), (n159, 919, .ref 654), (n171, 965, .ref 694), (n178, 1070, .ref 763), (n198, 1191, .ref 855), (n218, 1336, .ref 982), (n238, 1456, .ref 1081), (n255, 1508, .ref 1121), (n261, 1563, .ref 1170), (n270, 1575, .ref 1179)] 26), (12, oF [.int 1 0, .int 0 0, .ref 20, .int 5 0, .int 0 0, .ref 27, .int 7 0, .int 0 0, .ref 40, .int 9 0, .int 0 0, .ref 53, .int 74 0, .int 0 0, .ref 216, .int 106 0, .int 0 0, .ref 300, .int 207 0, .int 0 0, .ref 461, .int 295 0, .int 0 0, .ref 601, .int 322 0, .int 0 0, .ref 662, .int 345 0, .int 0 0, .ref 702, .int 458 0, .int 0 0, .ref 772, .int 554 0, .int 0 0, .ref 864, .int 644 0, .int 0 0, .ref 991, .int 722 0, .int 0 0, .ref 1089, .int 735 0, .int 0 0, .ref 1131, .int 752 0, .int 0 0, .ref 1178])]) 1173 [
  oT [],
  oF [],
  oT [.str n271 1569, .str n272 1570, .str n273 1571, .str n274 1572],
  oT [],
  oQ (stOf p 21) n270,
  oC [.str n270 1566, .str n270 1567, .str n1 1568, .int 752 0, .int 1 0, .int 0 0, .int 0 0, .int 3 0, .ref 1173, .bool true, .int 181 0, .ref 1174, .none, .ref 1175, .ref 1176, .ref 1177, .int 1573 0, .int 752 0, .str n1 1574],
  oU (stOf p 21) n270 [] .none (.str n269 1564) (.ref 1178) .none]
noncomputable def t25 (p : Program) (P : Params) : BT := insAll (setAll (t24 p P) [(3, oD P (.type y2) [(n3, 165, .str n269 1564), (n4, 166, .none), (n5, 167, .none), (n6, 168, .builtin y1), (n7, 169, .none), (n8, 170, .ref 6), (n9, 171, .ref 4), (n10, 173, .str n1 172), (n11, 174, .none), (n12, 193, .ref 21), (n17, 215, .ref 31), (n24, 235, .ref 44), (n25, 407, .ref 206), (n71, 494, .ref 290), (n84, 495, .ref 294), (n85, 681, .ref 453), (n130, 845, .ref 593), (n159, 919, .ref 654), (n171, 965, .ref 694), (n178, 1070, .ref 763), (n198, 1191, .ref 855), (n218, 1336, .ref 982), (n238, 1456, .ref 1081), (n255, 1508, .ref 1121), (n261, 1563, .ref 1170), (n270, 1575, .ref 1179), (n275, 1582, .ref 1186)] 27), (12, oF [.int 1 0, .int 0 0, .ref 20, .int 5 0, .int 0 0, .ref 27, .int 7 0, .int 0 0, .ref 40, .int 9 0, .int 0 0, .ref 53, .int 74 0, .int 0 0, .ref 216, .int 106 0, .int 0 0, .ref 300, .int 207 0, .int 0 0, .ref 461, .int 295 0, .int 0 0, .ref 601, .int 322 0, .int 0 0, .ref 662, .int 345 0, .int 0 0, .ref 702, .int 458 0, .int 0 0, .ref 772, .int 554 0, .int 0 0, .ref 864, .int 644 0, .int 0 0, .ref 991, .int 722 0, .int 0 0, .ref 1089, .int 735 0, .int 0 0, .ref 1131, .int 752 0, .int 0 0, .ref 1178, .int 761 0, .int 0 0, .ref 1185])]) 1180 [
  oT [],
  oF [],
  oT [.str n271 1579],
  oT [],
  oQ (stOf p 22) n275,
  oC [.str n275 1576, .str n275 1577, .str n1 1578, .int 761 0, .int 1 0, .int 0 0, .int 0 0, .int 3 0, .ref 1180, .bool true, .int 181 0, .ref 1181, .none, .ref 1182, .ref 1183, .ref 1184, .int 1580 0, .int 761 0, .str n1 1581],
  oU (stOf p 22) n275 [] .none (.str n269 1564) (.ref 1185) .none]
noncomputable def t26 (p : Program) (P : Params) : BT := insAll (setAll (t25 p P) [(3, oD P (.type y2) [(n3, 165, .str n269 1564), (n4, 166, .none), (n5, 167, .none), (n6, 168, .builtin y1), (n7, 169, .none), (n8, 170, .ref 6), (n9, 171, .ref 4), (n10, 173, .str n1 172), (n11, 174, .none), (n12, 193, .ref 21), (n17, 215, .ref 31), (n24, 235, .ref 44), (n25, 407, .ref 206), (n71, 494, .ref 290), (n84, 495, .ref 294), (n85, 681, .ref 453), (n130, 845, .ref 593), (n159, 919, .ref 654), (n171, 965, .ref 694), (n178, 1070, .ref 763), (n198, 1191, .ref 855), (n218, 1336, .ref 982), (n238, 1456, .ref 1081), (n255, 1508, .ref 1121), (n261, 1563, .ref 1170), (n270, 1575, .ref 1179), (n275, 1582, .ref 1186), (n276, 1590, .ref 1193)] 28), (12, oF [.int 1 0, .int 0 0, .ref 20, .int 5 0, .int 0 0, .ref 27, .int 7 0, .int 0 0, .ref 40, .int 9 0, .int 0 0, .ref 53, .int 74 0, .int 0 0, .ref 216, .int 106 0, .int 0 0, .ref 300, .int 207 0, .int 0 0, .ref 461, .int 295 0, .int 0 0, .ref 601, .int 322 0, .int 0 0, .ref 662, .int 345 0, .int 0 0, .ref 702, .int 458 0, .int 0 0, .ref 772, .int 554 0, .int 0 0, .ref 864, .int 644 0, .int 0 0, .ref 991, .int 722 0, .int 0 0, .ref 1089, .int 735 0, .int 0 0, .ref 1131, .int 752 0, .int 0 0, .ref 1178, .int 761 0, .int 0 0, .ref 1185, .int 763 0, .int 0 0, .ref 1192])]) 1187 [
  oT [],
  oF [],
  oT [.str n277 1586, .str n278 1587],
  oT [],
  oQ (stOf p 23) n276,
  oC [.str n276 1583, .str n276 1584, .str n1 1585, .int 763 0, .int 2 0, .int 0 0, .int 0 0, .int 3 0, .ref 1187, .bool true, .int 181 0, .ref 1188, .none, .ref 1189, .ref 1190, .ref 1191, .int 1588 0, .int 763 0, .str n1 1589],
  oU (stOf p 23) n276 [] .none (.str n269 1564) (.ref 1192) .none]
noncomputable def t27 (p : Program) (P : Params) : BT := insAll (setAll (t26 p P) [(3, oD P (.type y2) [(n3, 165, .str n269 1564), (n4, 166, .none), (n5, 167, .none), (n6, 168, .builtin y1), (n7, 169, .none), (n8, 170, .ref 6), (n9, 171, .ref 4), (n10, 173, .str n1 172), (n11, 174, .none), (n12, 193, .ref 21), (n17, 215, .ref 31), (n24, 235, .ref 44), (n25, 407, .ref 206), (n71, 494, .ref 290), (n84, 495, .ref 294), (n85, 681, .ref 453), (n130, 845, .ref 593), (n159, 919, .ref 654), (n171, 965, .ref 694), (n178, 1070, .ref 763), (n198, 1191, .ref 855), (n218, 1336, .ref 982), (n238, 1456, .ref 1081), (n255, 1508, .ref 1121), (n261, 1563, .ref 1170), (n270, 1575, .ref 1179), (n275, 1582, .ref 1186), (n276, 1590, .ref 1193), (n279, 1598, .ref 1200)] 29), (12, oF [.int 1 0, .int 0 0, .ref 20, .int 5 0, .int 0 0, .ref 27, .int 7 0, .int 0 0, .ref 40, .int 9 0, .int 0 0, .ref 53, .int 74 0, .int 0 0, .ref 216, .int 106 0, .int 0 0, .ref 300, .int 207 0, .int 0 0, .ref 461, .int 295 0, .int 0 0, .ref 601, .int 322 0, .int 0 0, .ref 662, .int 345 0, .int 0 0, .ref 702, .int 458 0, .int 0 0, .ref 772, .int 554 0, .int 0 0, .ref 864, .int 644 0, .int 0 0, .ref 991, .int 722 0, .int 0 0, .ref 1089, .int 735 0, .int 0 0, .ref 1131, .int 752 0, .int 0 0, .ref 1178, .int 761 0, .int 0 0, .ref 1185, .int 763 0, .int 0 0, .ref 1192, .int 769 0, .int 0 0, .ref 1199])]) 1194 [
  oT [],
  oF [],
  oT [.str n280 1594, .str n281 1595],
  oT [],
  oQ (stOf p 24) n279,
  oC [.str n279 1591, .str n279 1592, .str n1 1593, .int 769 0, .int 2 0, .int 0 0, .int 0 0, .int 3 0, .ref 1194, .bool true, .int 181 0, .ref 1195, .none, .ref 1196, .ref 1197, .ref 1198, .int 1596 0, .int 769 0, .str n1 1597],
  oU (stOf p 24) n279 [] .none (.str n269 1564) (.ref 1199) .none]
noncomputable def t28 (p : Program) (P : Params) : BT := insAll (setAll (t27 p P) [(3, oD P (.type y2) [(n3, 165, .str n269 1564), (n4, 166, .none), (n5, 167, .none), (n6, 168, .builtin y1), (n7, 169, .none), (n8, 170, .ref 6), (n9, 171, .ref 4), (n10, 173, .str n1 172), (n11, 174, .none), (n12, 193, .ref 21), (n17, 215, .ref 31), (n24, 235, .ref 44), (n25, 407, .ref 206), (n71, 494, .ref 290), (n84, 495, .ref 294), (n85, 681, .ref 453), (n130, 845, .ref 593), (n159, 919, .ref 654), (n171, 965, .ref 694), (n178, 1070, .ref 763), (n198, 1191, .ref 855), (n218, 1336, .ref 982), (n238, 1456, .ref 1081), (n255, 1508, .ref 1121), (n261, 1563, .ref 1170), (n270, 1575, .ref 1179), (n275, 1582, .ref 1186), (n276, 1590, .ref 1193), (n279, 1598, .ref 1200), (n282, 1611, .ref 1207)] 30), (12, oF [.int 1 0, .int 0 0, .ref 20, .int 5 0, .int 0 0, .ref 27, .int 7 0, .int 0 0, .ref 40, .int 9 0, .int 0 0, .ref 53, .int 74 0, .int 0 0, .ref 216, .int 106 0, .int 0 0, .ref 300, .int 207 0, .int 0 0, .ref 461, .int 295 0, .int 0 0, .ref 601, .int 322 0, .int 0 0, .ref 662, .int 345 0, .int 0 0, .ref 702, .int 458 0, .int 0 0, .ref 772, .int 554 0, .int 0 0, .ref 864, .int 644 0, .int 0 0, .ref 991, .int 722 0, .int 0 0, .ref 1089, .int 735 0, .int 0 0, .ref 1131, .int 752 0, .int 0 0, .ref 1178, .int 761 0, .int 0 0, .ref 1185, .int 763 0, .int 0 0, .ref 1192, .int 769 0, .int 0 0, .ref 1199, .int 771 0, .int 0 0, .ref 1206])]) 1201 [
  oT [],
  oF [],
  oT [.str n280 1602, .str n283 1603, .str n273 1604, .str n281 1605, .str n284 1606, .str n285 1607, .str n286 1608],
  oT [],
  oQ (stOf p 25) n282,
  oC [.str n282 1599, .str n282 1600, .str n1 1601, .int 771 0, .int 4 0, .int 0 0, .int 0 0, .int 3 0, .ref 1201, .bool true, .int 181 0, .ref 1202, .none, .ref 1203, .ref 1204, .ref 1205, .int 1609 0, .int 771 0, .str n1 1610],
  oU (stOf p 25) n282 [] .none (.str n269 1564) (.ref 1206) .none]
noncomputable def t29 (p : Program) (P : Params) : BT := insAll (setAll (t28 p P) [(3, oD P (.type y2) [(n3, 165, .str n269 1564), (n4, 166, .none), (n5, 167, .none), (n6, 168, .builtin y1), (n7, 169, .none), (n8, 170, .ref 6), (n9, 171, .ref 4), (n10, 173, .str n1 172), (n11, 174, .none), (n12, 193, .ref 21), (n17, 215, .ref 31), (n24, 235, .ref 44), (n25, 407, .ref 206), (n71, 494, .ref 290), (n84, 495, .ref 294), (n85, 681, .ref 453), (n130, 845, .ref 593), (n159, 919, .ref 654), (n171, 965, .ref 694), (n178, 1070, .ref 763), (n198, 1191, .ref 855), (n218, 1336, .ref 982), (n238, 1456, .ref 1081), (n255, 1508, .ref 1121), (n261, 1563, .ref 1170), (n270, 1575, .ref 1179), (n275, 1582, .ref 1186), (n276, 1590, .ref 1193), (n279, 1598, .ref 1200), (n282, 1611, .ref 1207), (n287, 1623, .ref 1214)] 31), (12, oF [.int 1 0, .int 0 0, .ref 20, .int 5 0, .int 0 0, .ref 27, .int 7 0, .int 0 0, .ref 40, .int 9 0, .int 0 0, .ref 53, .int 74 0, .int 0 0, .ref 216, .int 106 0, .int 0 0, .ref 300, .int 207 0, .int 0 0, .ref 461, .int 295 0, .int 0 0, .ref 601, .int 322 0, .int 0 0, .ref 662, .int 345 0, .int 0 0, .ref 702, .int 458 0, .int 0 0, .ref 772, .int 554 0, .int 0 0, .ref 864, .int 644 0, .int 0 0, .ref 991, .int 722 0, .int 0 0, .ref 1089, .int 735 0, .int 0 0, .ref 1131, .int 752 0, .int 0 0, .ref 1178, .int 761 0, .int 0 0, .ref 1185, .int 763 0, .int 0 0, .ref 1192, .int 769 0, .int 0 0, .ref 1199, .int 771 0, .int 0 0, .ref 1206, .int 781 0, .int 0 0, .ref 1213])]) 1208 [
  oT [],
  oF [],
  oT [.str n280 1615, .str n284 1616, .str n288 1617, .str n289 1618, .str n286 1619, .str n290 1620],
  oT [],
  oQ (stOf p 26) n287,
  oC [.str n287 1612, .str n287 1613, .str n1 1614, .int 781 0, .int 2 0, .int 0 0, .int 0 0, .int 3 0, .ref 1208, .bool true, .int 181 0, .ref 1209, .none, .ref 1210, .ref 1211, .ref 1212, .int 1621 0, .int 781 0, .str n1 1622],
  oU (stOf p 26) n287 [] .none (.str n269 1564) (.ref 1213) .none]
noncomputable def t30 (p : Program) (P : Params) : BT := insAll (setAll (t29 p P) [(3, oD P (.type y2) [(n3, 165, .str n269 1564), (n4, 166, .none), (n5, 167, .none), (n6, 168, .builtin y1), (n7, 169, .none), (n8, 170, .ref 6), (n9, 171, .ref 4), (n10, 173, .str n1 172), (n11, 174, .none), (n12, 193, .ref 21), (n17, 215, .ref 31), (n24, 235, .ref 44), (n25, 407, .ref 206), (n71, 494, .ref 290), (n84, 495, .ref 294), (n85, 681, .ref 453), (n130, 845, .ref 593), (n159, 919, .ref 654), (n171, 965, .ref 694), (n178, 1070, .ref 763), (n198, 1191, .ref 855), (n218, 1336, .ref 982), (n238, 1456, .ref 1081), (n255, 1508, .ref 1121), (n261, 1563, .ref 1170), (n270, 1575, .ref 1179), (n275, 1582, .ref 1186), (n276, 1590, .ref 1193), (n279, 1598, .ref 1200), (n282, 1611, .ref 1207), (n287, 1623, .ref 1214), (n291, 1629, .ref 1219)] 32), (12, oF [.int 1 0, .int 0 0, .ref 20, .int 5 0, .int 0 0, .ref 27, .int 7 0, .int 0 0, .ref 40, .int 9 0, .int 0 0, .ref 53, .int 74 0, .int 0 0, .ref 216, .int 106 0, .int 0 0, .ref 300, .int 207 0, .int 0 0, .ref 461, .int 295 0, .int 0 0, .ref 601, .int 322 0, .int 0 0, .ref 662, .int 345 0, .int 0 0, .ref 702, .int 458 0, .int 0 0, .ref 772, .int 554 0, .int 0 0, .ref 864, .int 644 0, .int 0 0, .ref 991, .int 722 0, .int 0 0, .ref 1089, .int 735 0, .int 0 0, .ref 1131, .int 752 0, .int 0 0, .ref 1178, .int 761 0, .int 0 0, .ref 1185, .int 763 0, .int 0 0, .ref 1192, .int 769 0, .int 0 0, .ref 1199, .int 771 0, .int 0 0, .ref 1206, .int 781 0, .int 0 0, .ref 1213, .int 790 0, .int 0 0, .ref 1218])]) 1215 [
  oT [],
  oF [],
  oQ (stOf p 27) n291,
  oC [.str n291 1624, .str n291 1625, .str n1 1626, .int 790 0, .int 2 0, .int 0 0, .int 0 0, .int 3 0, .ref 1215, .bool true, .int 181 0, .ref 1216, .none, .none, .none, .ref 1217, .int 1627 0, .int 790 0, .str n1 1628],
  oU (stOf p 27) n291 [] .none (.str n269 1564) (.ref 1218) .none]
noncomputable def t31 (p : Program) (P : Params) : BT := insAll (setAll (t30 p P) [(3, oD P (.type y2) [(n3, 165, .str n269 1564), (n4, 166, .none), (n5, 167, .none), (n6, 168, .builtin y1), (n7, 169, .none), (n8, 170, .ref 6), (n9, 171, .ref 4), (n10, 173, .str n1 172), (n11, 174, .none), (n12, 193, .ref 21), (n17, 215, .ref 31), (n24, 235, .ref 44), (n25, 407, .ref 206), (n71, 494, .ref 290), (n84, 495, .ref 294), (n85, 681, .ref 453), (n130, 845, .ref 593), (n159, 919, .ref 654), (n171, 965, .ref 694), (n178, 1070, .ref 763), (n198, 1191, .ref 855), (n218, 1336, .ref 982), (n238, 1456, .ref 1081), (n255, 1508, .ref 1121), (n261, 1563, .ref 1170), (n270, 1575, .ref 1179), (n275, 1582, .ref 1186), (n276, 1590, .ref 1193), (n279, 1598, .ref 1200), (n282, 1611, .ref 1207), (n287, 1623, .ref 1214), (n291, 1629, .ref 1219), (n292, 1635, .ref 1224)] 33), (12, oF [.int 1 0, .int 0 0, .ref 20, .int 5 0, .int 0 0, .ref 27, .int 7 0, .int 0 0, .ref 40, .int 9 0, .int 0 0, .ref 53, .int 74 0, .int 0 0, .ref 216, .int 106 0, .int 0 0, .ref 300, .int 207 0, .int 0 0, .ref 461, .int 295 0, .int 0 0, .ref 601, .int 322 0, .int 0 0, .ref 662, .int 345 0, .int 0 0, .ref 702, .int 458 0, .int 0 0, .ref 772, .int 554 0, .int 0 0, .ref 864, .int 644 0, .int 0 0, .ref 991, .int 722 0, .int 0 0, .ref 1089, .int 735 0, .int 0 0, .ref 1131, .int 752 0, .int 0 0, .ref 1178, .int 761 0, .int 0 0, .ref 1185, .int 763 0, .int 0 0, .ref 1192, .int 769 0, .int 0 0, .ref 1199, .int 771 0, .int 0 0, .ref 1206, .int 781 0, .int 0 0, .ref 1213, .int 790 0, .int 0 0, .ref 1218, .int 798 0, .int 0 0, .ref 1223])]) 1220 [
  oT [],
  oF [],
  oQ (stOf p 28) n292,
  oC [.str n292 1630, .str n292 1631, .str n1 1632, .int 798 0, .int 2 0, .int 0 0, .int 0 0, .int 3 0, .ref 1220, .bool true, .int 181 0, .ref 1221, .none, .none, .none, .ref 1222, .int 1633 0, .int 798 0, .str n1 1634],
  oU (stOf p 28) n292 [] .none (.str n269 1564) (.ref 1223) .none]
noncomputable def t32 (p : Program) (P : Params) : BT := insAll (setAll (t31 p P) [(3, oD P (.type y2) [(n3, 165, .str n269 1564), (n4, 166, .none), (n5, 167, .none), (n6, 168, .builtin y1), (n7, 169, .none), (n8, 170, .ref 6), (n9, 171, .ref 4), (n10, 173, .str n1 172), (n11, 174, .none), (n12, 193, .ref 21), (n17, 215, .ref 31), (n24, 235, .ref 44), (n25, 407, .ref 206), (n71, 494, .ref 290), (n84, 495, .ref 294), (n85, 681, .ref 453), (n130, 845, .ref 593), (n159, 919, .ref 654), (n171, 965, .ref 694), (n178, 1070, .ref 763), (n198, 1191, .ref 855), (n218, 1336, .ref 982), (n238, 1456, .ref 1081), (n255, 1508, .ref 1121), (n261, 1563, .ref 1170), (n270, 1575, .ref 1179), (n275, 1582, .ref 1186), (n276, 1590, .ref 1193), (n279, 1598, .ref 1200), (n282, 1611, .ref 1207), (n287, 1623, .ref 1214), (n291, 1629, .ref 1219), (n292, 1635, .ref 1224), (n293, 1648, .ref 1231)] 34), (12, oF [.int 1 0, .int 0 0, .ref 20, .int 5 0, .int 0 0, .ref 27, .int 7 0, .int 0 0, .ref 40, .int 9 0, .int 0 0, .ref 53, .int 74 0, .int 0 0, .ref 216, .int 106 0, .int 0 0, .ref 300, .int 207 0, .int 0 0, .ref 461, .int 295 0, .int 0 0, .ref 601, .int 322 0, .int 0 0, .ref 662, .int 345 0, .int 0 0, .ref 702, .int 458 0, .int 0 0, .ref 772, .int 554 0, .int 0 0, .ref 864, .int 644 0, .int 0 0, .ref 991, .int 722 0, .int 0 0, .ref 1089, .int 735 0, .int 0 0, .ref 1131, .int 752 0, .int 0 0, .ref 1178, .int 761 0, .int 0 0, .ref 1185, .int 763 0, .int 0 0, .ref 1192, .int 769 0, .int 0 0, .ref 1199, .int 771 0, .int 0 0, .ref 1206, .int 781 0, .int 0 0, .ref 1213, .int 790 0, .int 0 0, .ref 1218, .int 798 0, .int 0 0, .ref 1223, .int 805 0, .int 0 0, .ref 1230])]) 1225 [
  oT [],
  oF [],
  oT [.str n294 1639, .str n283 1640, .str n273 1641, .str n295 1642, .str n296 1643, .str n285 1644, .str n297 1645],
  oT [],
  oQ (stOf p 29) n293,
  oC [.str n293 1636, .str n293 1637, .str n1 1638, .int 805 0, .int 3 0, .int 0 0, .int 0 0, .int 3 0, .ref 1225, .bool true, .int 181 0, .ref 1226, .none, .ref 1227, .ref 1228, .ref 1229, .int 1646 0, .int 805 0, .str n1 1647],
  oU (stOf p 29) n293 [] .none (.str n269 1564) (.ref 1230) .none]
noncomputable def t33 (p : Program) (P : Params) : BT := insAll (setAll (t32 p P) [(3, oD P (.type y2) [(n3, 165, .str n269 1564), (n4, 166, .none), (n5, 167, .none), (n6, 168, .builtin y1), (n7, 169, .none), (n8, 170, .ref 6), (n9, 171, .ref 4), (n10, 173, .str n1 172), (n11, 174, .none), (n12, 193, .ref 21), (n17, 215, .ref 31), (n24, 235, .ref 44), (n25, 407, .ref 206), (n71, 494, .ref 290), (n84, 495, .ref 294), (n85, 681, .ref 453), (n130, 845, .ref 593), (n159, 919, .ref 654), (n171, 965, .ref 694), (n178, 1070, .ref 763), (n198, 1191, .ref 855), (n218, 1336, .ref 982), (n238, 1456, .ref 1081), (n255, 1508, .ref 1121), (n261, 1563, .ref 1170), (n270, 1575, .ref 1179), (n275, 1582, .ref 1186), (n276, 1590, .ref 1193), (n279, 1598, .ref 1200), (n282, 1611, .ref 1207), (n287, 1623, .ref 1214), (n291, 1629, .ref 1219), (n292, 1635, .ref 1224), (n293, 1648, .ref 1231), (n298, 1654, .ref 1236)] 35), (12, oF [.int 1 0, .int 0 0, .ref 20, .int 5 0, .int 0 0, .ref 27, .int 7 0, .int 0 0, .ref 40, .int 9 0, .int 0 0, .ref 53, .int 74 0, .int 0 0, .ref 216, .int 106 0, .int 0 0, .ref 300, .int 207 0, .int 0 0, .ref 461, .int 295 0, .int 0 0, .ref 601, .int 322 0, .int 0 0, .ref 662, .int 345 0, .int 0 0, .ref 702, .int 458 0, .int 0 0, .ref 772, .int 554 0, .int 0 0, .ref 864, .int 644 0, .int 0 0, .ref 991, .int 722 0, .int 0 0, .ref 1089, .int 735 0, .int 0 0, .ref 1131, .int 752 0, .int 0 0, .ref 1178, .int 761 0, .int 0 0, .ref 1185, .int 763 0, .int 0 0, .ref 1192, .int 769 0, .int 0 0, .ref 1199, .int 771 0, .int 0 0, .ref 1206, .int 781 0, .int 0 0, .ref 1213, .int 790 0, .int 0 0, .ref 1218, .int 798 0, .int 0 0, .ref 1223, .int 805 0, .int 0 0, .ref 1230, .int 814 0, .int 0 0, .ref 1235])]) 1232 [
  oT [],
  oF [],
  oQ (stOf p 30) n298,
  oC [.str n298 1649, .str n298 1650, .str n1 1651, .int 814 0, .int 1 0, .int 0 0, .int 0 0, .int 3 0, .ref 1232, .bool true, .int 181 0, .ref 1233, .none, .none, .none, .ref 1234, .int 1652 0, .int 814 0, .str n1 1653],
  oU (stOf p 30) n298 [] .none (.str n269 1564) (.ref 1235) .none]
theorem c0 : Piece wSR wTB tp 0 4 t1 t6 15 187 48 236 431 ⟨0, 0, 0, 0⟩ ⟨7, 0, 8, 8⟩ := fun _ _ => by kernel_rfl
theorem c1 : Piece wSR wTB tp 4 1 t6 t7 48 236 211 408 852 ⟨7, 0, 8, 8⟩ ⟨9, 0, 73, 58⟩ := fun _ _ => by kernel_rfl
theorem c2 : Piece wSR wTB tp 5 2 t7 t9 211 408 295 496 581 ⟨9, 0, 73, 58⟩ ⟨105, 0, 105, 11⟩ := fun _ _ => by kernel_rfl
theorem c3 : Piece wSR wTB tp 7 2 t9 t11 295 496 456 684 898 ⟨105, 0, 105, 11⟩ ⟨206, 0, 206, 8⟩ := fun _ _ => by kernel_rfl
theorem c4 : Piece wSR wTB tp 9 2 t11 t13 456 684 596 848 802 ⟨206, 0, 206, 8⟩ ⟨294, 0, 294, 8⟩ := fun _ _ => by kernel_rfl
theorem c5 : Piece wSR wTB tp 11 2 t13 t15 596 848 697 966 789 ⟨294, 0, 294, 8⟩ ⟨322, 0, 344, 46⟩ := fun _ _ => by kernel_rfl
theorem c6 : Piece wSR wTB tp 13 1 t15 t16 697 966 766 1071 531 ⟨322, 0, 344, 46⟩ ⟨345, 0, 457, 17⟩ := fun _ _ => by kernel_rfl
theorem c7 : Piece wSR wTB tp 14 1 t16 t17 766 1071 858 1192 625 ⟨345, 0, 457, 17⟩ ⟨458, 0, 553, 27⟩ := fun _ _ => by kernel_rfl
theorem c8 : Piece wSR wTB tp 15 1 t17 t18 858 1192 985 1337 755 ⟨458, 0, 553, 27⟩ ⟨554, 0, 643, 17⟩ := fun _ _ => by kernel_rfl
theorem c9 : Piece wSR wTB tp 16 2 t18 t20 985 1337 1084 1459 657 ⟨554, 0, 643, 17⟩ ⟨721, 0, 721, 8⟩ := fun _ _ => by kernel_rfl
theorem c10 : Piece wSR wTB tp 18 9 t20 t29 1084 1459 1215 1624 890 ⟨721, 0, 721, 8⟩ ⟨781, 0, 789, 16⟩ := fun _ _ => by kernel_rfl
theorem c11 : Piece wSR wTB tp 27 4 t29 t33 1215 1624 1237 1655 114 ⟨781, 0, 789, 16⟩ ⟨814, 0, 849, 16⟩ := fun _ _ => by kernel_rfl
noncomputable abbrev TG := TB → Program → World → Nat → Option Value → Nat → Shared → Thread → Option (Shared × Thread)
noncomputable def PreS (tg : TG) (tb : TB) (p : Program) (dn : TB → Code → Sem Fin) : Prop :=
  ∀ (w : World) (os : OsState), tg tb p w 11 (some (.ref 6)) 12 ⟨boot_heap w.params, ⟨[]⟩, boot_drawn, boot_toks, os⟩ (topStub p) = some ((ST (t1 p w.params) 15 187 os).abs, ⟨dn tb (cdT p), cdT p, ⟨0, 0, 0, 0⟩, B0⟩)
theorem pre1 : PreS PySem.W.Fast.tw15667345088766844465 wTB tp PySem.W.Fast.tw11892475500146522536 := fun _ _ => by kernel_rfl
theorem pre_e {a b : TG} {c d : TB} {p q : Program} {x y : TB → Code → Sem Fin} (h1 : a = b) (h2 : c = d) (h3 : p = q) (h4 : x = y) (h : PreS b d q y) : PreS a c p x := by
  subst h1 h2 h3 h4; exact h
theorem pre2 : PreS topGo treeTable pw denote := pre_e PySem.W.Fast.te15667345088766844465 tbE tpe PySem.W.Fast.te11892475500146522536 pre1
noncomputable def BlkS (sr : SR) (tb : TB) (p : Program) : Prop :=
  ∀ (w : World) (os : OsState), sr tb p w 11 (some (.ref 6)) 1 1 (ST (t1 p w.params) 15 187 os) (blockOf (behindTheImports p) (envT p) (cdT p) ⟨0, 0, 0, 0⟩ B0) = some (.next, ST (t1 p w.params) 15 187 os, cdT p, ⟨0, 0, 0, 0⟩)
theorem blk1 : BlkS wSR wTB tp := fun _ _ => by kernel_rfl
theorem blk_e {a b : SR} {c d : TB} {p q : Program} (h1 : a = b) (h2 : c = d) (h3 : p = q) (h : BlkS b d q) : BlkS a c p := by
  subst h1 h2 h3; exact h
theorem blk2 : BlkS segRunT treeTable pw := blk_e srE tbE tpe blk1
noncomputable abbrev ann0 : Option Value := some (.ref 6)
noncomputable abbrev tEnd := t33
noncomputable abbrev sEnd (w : World) (os : OsState) : Shared := (ST (tEnd pw w.params) 1237 1655 os).abs
noncomputable def segs (p : Program) (i j : Nat) : List Stmt := (p.main.body.drop i).take j
theorem body_split : behindTheImports pw = segs pw 0 4 ++ (segs pw 4 1 ++ (segs pw 5 2 ++ (segs pw 7 2 ++ (segs pw 9 2 ++ (segs pw 11 2 ++ (segs pw 13 1 ++ (segs pw 14 1 ++ (segs pw 15 1 ++ (segs pw 16 2 ++ (segs pw 18 9 ++ (segs pw 27 4 ++ []))))))))))) := by kernel_rfl
theorem r12 (w : World) (os : OsState) : topRun treeTable pw w 11 ann0 2 (ST (tEnd pw w.params) 1237 1655 os).abs (restOf [] (envT pw) (cdT pw) ⟨814, 0, 849, 16⟩ B0) = some (sEnd w os) := by kernel_rfl
theorem g11 (w : World) (os : OsState) : segRun treeTable pw w 11 ann0 1 114 (ST (t29 pw w.params) 1215 1624 os).abs (piecesOf (segs pw 27 4) (envT pw) (cdT pw) ⟨781, 0, 789, 16⟩ B0) = some (.next, (ST (t33 pw w.params) 1237 1655 os).abs, cdT pw, ⟨814, 0, 849, 16⟩) := segRun_of (piece_of c11 w os)
theorem r11 (w : World) (os : OsState) : topRun treeTable pw w 11 ann0 (114 + 2) (ST (t29 pw w.params) 1215 1624 os).abs (restOf (segs pw 27 4 ++ []) (envT pw) (cdT pw) ⟨781, 0, 789, 16⟩ B0) = some (sEnd w os) := piece_app (g11 w os) (r12 w os)
theorem g10 (w : World) (os : OsState) : segRun treeTable pw w 11 ann0 1 890 (ST (t20 pw w.params) 1084 1459 os).abs (piecesOf (segs pw 18 9) (envT pw) (cdT pw) ⟨721, 0, 721, 8⟩ B0) = some (.next, (ST (t29 pw w.params) 1215 1624 os).abs, cdT pw, ⟨781, 0, 789, 16⟩) := segRun_of (piece_of c10 w os)
theorem r10 (w : World) (os : OsState) : topRun treeTable pw w 11 ann0 (890 + (114 + 2)) (ST (t20 pw w.params) 1084 1459 os).abs (restOf (segs pw 18 9 ++ (segs pw 27 4 ++ [])) (envT pw) (cdT pw) ⟨721, 0, 721, 8⟩ B0) = some (sEnd w os) := piece_app (g10 w os) (r11 w os)
theorem g9 (w : World) (os : OsState) : segRun treeTable pw w 11 ann0 1 657 (ST (t18 pw w.params) 985 1337 os).abs (piecesOf (segs pw 16 2) (envT pw) (cdT pw) ⟨554, 0, 643, 17⟩ B0) = some (.next, (ST (t20 pw w.params) 1084 1459 os).abs, cdT pw, ⟨721, 0, 721, 8⟩) := segRun_of (piece_of c9 w os)
theorem r9 (w : World) (os : OsState) : topRun treeTable pw w 11 ann0 (657 + (890 + (114 + 2))) (ST (t18 pw w.params) 985 1337 os).abs (restOf (segs pw 16 2 ++ (segs pw 18 9 ++ (segs pw 27 4 ++ []))) (envT pw) (cdT pw) ⟨554, 0, 643, 17⟩ B0) = some (sEnd w os) := piece_app (g9 w os) (r10 w os)
theorem g8 (w : World) (os : OsState) : segRun treeTable pw w 11 ann0 1 755 (ST (t17 pw w.params) 858 1192 os).abs (piecesOf (segs pw 15 1) (envT pw) (cdT pw) ⟨458, 0, 553, 27⟩ B0) = some (.next, (ST (t18 pw w.params) 985 1337 os).abs, cdT pw, ⟨554, 0, 643, 17⟩) := segRun_of (piece_of c8 w os)
theorem r8 (w : World) (os : OsState) : topRun treeTable pw w 11 ann0 (755 + (657 + (890 + (114 + 2)))) (ST (t17 pw w.params) 858 1192 os).abs (restOf (segs pw 15 1 ++ (segs pw 16 2 ++ (segs pw 18 9 ++ (segs pw 27 4 ++ [])))) (envT pw) (cdT pw) ⟨458, 0, 553, 27⟩ B0) = some (sEnd w os) := piece_app (g8 w os) (r9 w os)
theorem g7 (w : World) (os : OsState) : segRun treeTable pw w 11 ann0 1 625 (ST (t16 pw w.params) 766 1071 os).abs (piecesOf (segs pw 14 1) (envT pw) (cdT pw) ⟨345, 0, 457, 17⟩ B0) = some (.next, (ST (t17 pw w.params) 858 1192 os).abs, cdT pw, ⟨458, 0, 553, 27⟩) := segRun_of (piece_of c7 w os)
theorem r7 (w : World) (os : OsState) : topRun treeTable pw w 11 ann0 (625 + (755 + (657 + (890 + (114 + 2))))) (ST (t16 pw w.params) 766 1071 os).abs (restOf (segs pw 14 1 ++ (segs pw 15 1 ++ (segs pw 16 2 ++ (segs pw 18 9 ++ (segs pw 27 4 ++ []))))) (envT pw) (cdT pw) ⟨345, 0, 457, 17⟩ B0) = some (sEnd w os) := piece_app (g7 w os) (r8 w os)
theorem g6 (w : World) (os : OsState) : segRun treeTable pw w 11 ann0 1 531 (ST (t15 pw w.params) 697 966 os).abs (piecesOf (segs pw 13 1) (envT pw) (cdT pw) ⟨322, 0, 344, 46⟩ B0) = some (.next, (ST (t16 pw w.params) 766 1071 os).abs, cdT pw, ⟨345, 0, 457, 17⟩) := segRun_of (piece_of c6 w os)
theorem r6 (w : World) (os : OsState) : topRun treeTable pw w 11 ann0 (531 + (625 + (755 + (657 + (890 + (114 + 2)))))) (ST (t15 pw w.params) 697 966 os).abs (restOf (segs pw 13 1 ++ (segs pw 14 1 ++ (segs pw 15 1 ++ (segs pw 16 2 ++ (segs pw 18 9 ++ (segs pw 27 4 ++ [])))))) (envT pw) (cdT pw) ⟨322, 0, 344, 46⟩ B0) = some (sEnd w os) := piece_app (g6 w os) (r7 w os)
theorem g5 (w : World) (os : OsState) : segRun treeTable pw w 11 ann0 1 789 (ST (t13 pw w.params) 596 848 os).abs (piecesOf (segs pw 11 2) (envT pw) (cdT pw) ⟨294, 0, 294, 8⟩ B0) = some (.next, (ST (t15 pw w.params) 697 966 os).abs, cdT pw, ⟨322, 0, 344, 46⟩) := segRun_of (piece_of c5 w os)
theorem r5 (w : World) (os : OsState) : topRun treeTable pw w 11 ann0 (789 + (531 + (625 + (755 + (657 + (890 + (114 + 2))))))) (ST (t13 pw w.params) 596 848 os).abs (restOf (segs pw 11 2 ++ (segs pw 13 1 ++ (segs pw 14 1 ++ (segs pw 15 1 ++ (segs pw 16 2 ++ (segs pw 18 9 ++ (segs pw 27 4 ++ []))))))) (envT pw) (cdT pw) ⟨294, 0, 294, 8⟩ B0) = some (sEnd w os) := piece_app (g5 w os) (r6 w os)
theorem g4 (w : World) (os : OsState) : segRun treeTable pw w 11 ann0 1 802 (ST (t11 pw w.params) 456 684 os).abs (piecesOf (segs pw 9 2) (envT pw) (cdT pw) ⟨206, 0, 206, 8⟩ B0) = some (.next, (ST (t13 pw w.params) 596 848 os).abs, cdT pw, ⟨294, 0, 294, 8⟩) := segRun_of (piece_of c4 w os)
theorem r4 (w : World) (os : OsState) : topRun treeTable pw w 11 ann0 (802 + (789 + (531 + (625 + (755 + (657 + (890 + (114 + 2)))))))) (ST (t11 pw w.params) 456 684 os).abs (restOf (segs pw 9 2 ++ (segs pw 11 2 ++ (segs pw 13 1 ++ (segs pw 14 1 ++ (segs pw 15 1 ++ (segs pw 16 2 ++ (segs pw 18 9 ++ (segs pw 27 4 ++ [])))))))) (envT pw) (cdT pw) ⟨206, 0, 206, 8⟩ B0) = some (sEnd w os) := piece_app (g4 w os) (r5 w os)
theorem g3 (w : World) (os : OsState) : segRun treeTable pw w 11 ann0 1 898 (ST (t9 pw w.params) 295 496 os).abs (piecesOf (segs pw 7 2) (envT pw) (cdT pw) ⟨105, 0, 105, 11⟩ B0) = some (.next, (ST (t11 pw w.params) 456 684 os).abs, cdT pw, ⟨206, 0, 206, 8⟩) := segRun_of (piece_of c3 w os)
theorem r3 (w : World) (os : OsState) : topRun treeTable pw w 11 ann0 (898 + (802 + (789 + (531 + (625 + (755 + (657 + (890 + (114 + 2))))))))) (ST (t9 pw w.params) 295 496 os).abs (restOf (segs pw 7 2 ++ (segs pw 9 2 ++ (segs pw 11 2 ++ (segs pw 13 1 ++ (segs pw 14 1 ++ (segs pw 15 1 ++ (segs pw 16 2 ++ (segs pw 18 9 ++ (segs pw 27 4 ++ []))))))))) (envT pw) (cdT pw) ⟨105, 0, 105, 11⟩ B0) = some (sEnd w os) := piece_app (g3 w os) (r4 w os)
theorem g2 (w : World) (os : OsState) : segRun treeTable pw w 11 ann0 1 581 (ST (t7 pw w.params) 211 408 os).abs (piecesOf (segs pw 5 2) (envT pw) (cdT pw) ⟨9, 0, 73, 58⟩ B0) = some (.next, (ST (t9 pw w.params) 295 496 os).abs, cdT pw, ⟨105, 0, 105, 11⟩) := segRun_of (piece_of c2 w os)
theorem r2 (w : World) (os : OsState) : topRun treeTable pw w 11 ann0 (581 + (898 + (802 + (789 + (531 + (625 + (755 + (657 + (890 + (114 + 2)))))))))) (ST (t7 pw w.params) 211 408 os).abs (restOf (segs pw 5 2 ++ (segs pw 7 2 ++ (segs pw 9 2 ++ (segs pw 11 2 ++ (segs pw 13 1 ++ (segs pw 14 1 ++ (segs pw 15 1 ++ (segs pw 16 2 ++ (segs pw 18 9 ++ (segs pw 27 4 ++ [])))))))))) (envT pw) (cdT pw) ⟨9, 0, 73, 58⟩ B0) = some (sEnd w os) := piece_app (g2 w os) (r3 w os)
theorem g1 (w : World) (os : OsState) : segRun treeTable pw w 11 ann0 1 852 (ST (t6 pw w.params) 48 236 os).abs (piecesOf (segs pw 4 1) (envT pw) (cdT pw) ⟨7, 0, 8, 8⟩ B0) = some (.next, (ST (t7 pw w.params) 211 408 os).abs, cdT pw, ⟨9, 0, 73, 58⟩) := segRun_of (piece_of c1 w os)
theorem r1 (w : World) (os : OsState) : topRun treeTable pw w 11 ann0 (852 + (581 + (898 + (802 + (789 + (531 + (625 + (755 + (657 + (890 + (114 + 2))))))))))) (ST (t6 pw w.params) 48 236 os).abs (restOf (segs pw 4 1 ++ (segs pw 5 2 ++ (segs pw 7 2 ++ (segs pw 9 2 ++ (segs pw 11 2 ++ (segs pw 13 1 ++ (segs pw 14 1 ++ (segs pw 15 1 ++ (segs pw 16 2 ++ (segs pw 18 9 ++ (segs pw 27 4 ++ []))))))))))) (envT pw) (cdT pw) ⟨7, 0, 8, 8⟩ B0) = some (sEnd w os) := piece_app (g1 w os) (r2 w os)
theorem g0 (w : World) (os : OsState) : segRun treeTable pw w 11 ann0 1 431 (ST (t1 pw w.params) 15 187 os).abs (piecesOf (segs pw 0 4) (envT pw) (cdT pw) ⟨0, 0, 0, 0⟩ B0) = some (.next, (ST (t6 pw w.params) 48 236 os).abs, cdT pw, ⟨7, 0, 8, 8⟩) := segRun_of (piece_of c0 w os)
theorem r0 (w : World) (os : OsState) : topRun treeTable pw w 11 ann0 (431 + (852 + (581 + (898 + (802 + (789 + (531 + (625 + (755 + (657 + (890 + (114 + 2)))))))))))) (ST (t1 pw w.params) 15 187 os).abs (restOf (segs pw 0 4 ++ (segs pw 4 1 ++ (segs pw 5 2 ++ (segs pw 7 2 ++ (segs pw 9 2 ++ (segs pw 11 2 ++ (segs pw 13 1 ++ (segs pw 14 1 ++ (segs pw 15 1 ++ (segs pw 16 2 ++ (segs pw 18 9 ++ (segs pw 27 4 ++ [])))))))))))) (envT pw) (cdT pw) ⟨0, 0, 0, 0⟩ B0) = some (sEnd w os) := piece_app (g0 w os) (r1 w os)
theorem rb (w : World) (os : OsState) : topRun treeTable pw w 11 ann0 (431 + (852 + (581 + (898 + (802 + (789 + (531 + (625 + (755 + (657 + (890 + (114 + 2)))))))))))) (ST (t1 pw w.params) 15 187 os).abs (restOf (behindTheImports pw) (envT pw) (cdT pw) ⟨0, 0, 0, 0⟩ B0) = some (sEnd w os) := (congrArg (fun l => topRun treeTable pw w 11 ann0 (431 + (852 + (581 + (898 + (802 + (789 + (531 + (625 + (755 + (657 + (890 + (114 + 2)))))))))))) (ST (t1 pw w.params) 15 187 os).abs (restOf l (envT pw) (cdT pw) ⟨0, 0, 0, 0⟩ B0)) body_split).trans (r0 w os)
theorem gb (w : World) (os : OsState) : segRun treeTable pw w 11 ann0 1 1 (ST (t1 pw w.params) 15 187 os).abs (blockOf (behindTheImports pw) (envT pw) (cdT pw) ⟨0, 0, 0, 0⟩ B0) = some (.next, (ST (t1 pw w.params) 15 187 os).abs, cdT pw, ⟨0, 0, 0, 0⟩) := segRun_of (blk2 w os)
theorem rc (w : World) (os : OsState) : topRun treeTable pw w 11 ann0 (1 + (431 + (852 + (581 + (898 + (802 + (789 + (531 + (625 + (755 + (657 + (890 + (114 + 2))))))))))))) (ST (t1 pw w.params) 15 187 os).abs ⟨denote treeTable (cdT pw), cdT pw, ⟨0, 0, 0, 0⟩, B0⟩ = some (sEnd w os) := piece_block (gb w os) (rb w os)
theorem run (w : World) (os : OsState) : topRun treeTable pw w 11 ann0 (12 + (1 + (431 + (852 + (581 + (898 + (802 + (789 + (531 + (625 + (755 + (657 + (890 + (114 + 2)))))))))))))) ⟨boot_heap w.params, ⟨[]⟩, boot_drawn, boot_toks, os⟩ (topStub pw) = some (sEnd w os) := go_top (pre2 w os) (rc w os)
open PyProof.Rows
noncomputable def hEnd (P : Params) : Heap := absHeap (tEnd pw P) 1237 {}
noncomputable def sE (w : World) (os : OsState) : Shared := ⟨hEnd w.params, ⟨[]⟩, {}, 1655, os⟩
noncomputable abbrev rwl : OpenLaw := PySem.Challenge.rw_ah0049_01
noncomputable abbrev rr : OpenRow := rwl.row
noncomputable def qv : Program := { pw with main := { pw.main with body := [stOf pw 30] } }
noncomputable def loose0 : List PySem.Str := ["NullMatcher", "_wall", "ReadTooFar", "NoQualityAvailable", "Matcher", "NullMatcherClass", "ListMatcher", "MultiMatcher", "BiMatcher", "AdditiveBiMatcher", "UnionMatcher", "IntersectionMatcher", "AndNotMatcher", "AndMaybeMatcher", "BaseScorer", "WeightScorer", "_law_text", "_law_part", "_law_fits", "_law_weight", "_law_ways", "_law_sum", "_law_list", "_law_here", "_law_tree"]
theorem op1 : opening pw = plainProg pw.main.scope.names := by kernel_rfl
theorem op2 : ∀ s, fenceModules? pw s = some s := fun s => by kernel_rfl
theorem sz (w : World) : ((boot_heap w.params).isNs mainGlobals && (Array.mk [] : Array GenState).size == 0, (boot_heap w.params).objs.size, (boot_heap w.params).nsMap mainGlobals "__annotations__") = (true, 11, some (.ref 6)) := by kernel_rfl
noncomputable abbrev Xt0 (s : Shared) : Bool := xlAt qv [] s && recOk (RowW.records rr.toRowW) s
theorem lk0 (w : World) (os : OsState) : (staticsOk (importedModules pw.main.body) (boot_heap w.params) (sE w os).heap && namesBound pw (sE w os).heap && gensDone (sE w os) && laidKept (boot_heap w.params) (sE w os).heap) = true := by kernel_rfl
theorem lk1 (w : World) (os : OsState) : seen ((recsOf qv).map (·.name)) (ownsOf qv) [] { sEnd w os with gens := #[] } = expectedOf qv := by kernel_rfl
theorem lk2 (w : World) (os : OsState) : (sE w os).heap.bltView = bltViewBooted := by kernel_rfl
theorem lk3 (w : World) (os : OsState) : ((sE w os).heap.keysOk (looseW qv loose0) ((recsOf qv).map (·.name)) ((litsOf qv).map (·.1)) ((clssOf qv (looseW qv loose0)).map (·.name)) && (sE w os).heap.accountedOkI (importedModules pw.main.body) && (sE w os).heap.isNs mainGlobals && (sE w os).heap.isNs builtinsNs && tablesOk qv (sE w os).heap && Xt0 (sE w os) && (if true then (sE w os).gens.size == 0 else !leftWithCleanup (sE w os).gens)) = true := by kernel_rfl
theorem lk4 (w : World) (os : OsState) : tabsOk qv (sE w os) = true := by kernel_rfl
theorem lk5 (w : World) (os : OsState) : pinSeenD qv (drecsOf qv) (sE w os) = pinGoodD (drecsOf qv) := by kernel_rfl
theorem lk6 (w : World) (os : OsState) : plainSeenE qv (looseW qv loose0) (sE w os) = plainGoodE qv (looseW qv loose0) := by kernel_rfl
theorem lk7 (w : World) (os : OsState) : plainSeenD qv loose0 (sE w os) = plainGoodD qv loose0 := by kernel_rfl
theorem lk8 (w : World) (os : OsState) : wideSeen qv (sE w os) = wideGood qv := by kernel_rfl
theorem lk9 (w : World) (os : OsState) : clsSeenW qv loose0 (sE w os) = clsGoodW qv loose0 := by kernel_rfl
noncomputable def fnO (s : Stmt) (q : PySem.Str) (cl : List (PySem.Str × Addr)) (dv pm cd ct : Value) : Obj := ⟨.type "function", none, .func (fnX (fName s) q (fArgs s) (fBody s) (fScope s) cl dv .none .none pm none cd ct), #[]⟩
noncomputable def KK (P : Params) : Frag := [
  (2, ⟨.none, none, .dict (List.toArray (enAll P [((Str.ofString "type.__subclasses__.Exception.0"), 212, .int 31 0), ((Str.ofString "type.__subclasses__.Exception.n"), 213, .int 2 0), ((Str.ofString "type.__subclasses__.Exception.1"), 232, .int 44 0)])) 3, #[]⟩),
  (3, ⟨.type "dict", none, .dict (List.toArray (enAll P [((Str.ofString "__name__"), 165, .str (Str.ofString "law_ah0049_01") 1564), ((Str.ofString "__doc__"), 166, .none), ((Str.ofString "__package__"), 167, .none), ((Str.ofString "__loader__"), 168, .builtin "__main__.__loader__#opaque"), ((Str.ofString "__spec__"), 169, .none), ((Str.ofString "__annotations__"), 170, .ref 6), ((Str.ofString "__builtins__"), 171, .ref 4), ((Str.ofString "__file__"), 173, .str (Str.ofString "/claim/cut.py") 172), ((Str.ofString "__cached__"), 174, .none), ((Str.ofString "_wall"), 193, .ref 21), ((Str.ofString "ReadTooFar"), 215, .ref 31), ((Str.ofString "NoQualityAvailable"), 235, .ref 44), ((Str.ofString "Matcher"), 407, .ref 206), ((Str.ofString "NullMatcherClass"), 494, .ref 290), ((Str.ofString "NullMatcher"), 495, .ref 294), ((Str.ofString "ListMatcher"), 681, .ref 453), ((Str.ofString "MultiMatcher"), 845, .ref 593), ((Str.ofString "BiMatcher"), 919, .ref 654), ((Str.ofString "AdditiveBiMatcher"), 965, .ref 694), ((Str.ofString "UnionMatcher"), 1070, .ref 763), ((Str.ofString "IntersectionMatcher"), 1191, .ref 855), ((Str.ofString "AndNotMatcher"), 1336, .ref 982), ((Str.ofString "AndMaybeMatcher"), 1456, .ref 1081), ((Str.ofString "BaseScorer"), 1508, .ref 1121), ((Str.ofString "WeightScorer"), 1563, .ref 1170), ((Str.ofString "_law_text"), 1575, .ref 1179), ((Str.ofString "_law_part"), 1582, .ref 1186), ((Str.ofString "_law_fits"), 1590, .ref 1193), ((Str.ofString "_law_weight"), 1598, .ref 1200), ((Str.ofString "_law_ways"), 1611, .ref 1207), ((Str.ofString "_law_sum"), 1623, .ref 1214), ((Str.ofString "_law_list"), 1629, .ref 1219), ((Str.ofString "_law_here"), 1635, .ref 1224), ((Str.ofString "_law_tree"), 1648, .ref 1231), ((Str.ofString "law"), 1654, .ref 1236)])) 35, #[]⟩),
  (205, ⟨.type "dict", none, .dict (List.toArray (enAll P [((Str.ofString "__module__"), 243, .str (Str.ofString "whoosh.matching.mcore") 194), ((Str.ofString "__firstlineno__"), 247, .int 9 246), ((Str.ofString "is_active"), 254, .ref 61), ((Str.ofString "reset"), 261, .ref 68), ((Str.ofString "term"), 268, .ref 75), ((Str.ofString "term_matchers"), 275, .ref 82), ((Str.ofString "matching_terms"), 283, .ref 90), ((Str.ofString "is_leaf"), 290, .ref 97), ((Str.ofString "children"), 297, .ref 104), ((Str.ofString "replace"), 306, .ref 112), ((Str.ofString "copy"), 313, .ref 119), ((Str.ofString "depth"), 320, .ref 126), ((Str.ofString "supports_block_quality"), 327, .ref 133), ((Str.ofString "max_quality"), 334, .ref 140), ((Str.ofString "block_quality"), 341, .ref 147), ((Str.ofString "id"), 348, .ref 154), ((Str.ofString "all_ids"), 355, .ref 161), ((Str.ofString "all_items"), 362, .ref 168), ((Str.ofString "value"), 369, .ref 175), ((Str.ofString "skip_to"), 377, .ref 182), ((Str.ofString "skip_to_quality"), 385, .ref 189), ((Str.ofString "next"), 392, .ref 196), ((Str.ofString "score"), 399, .ref 203), ((Str.ofString "__static_attributes__"), 400, .ref 204), ((Str.ofString "__dict__"), 402, .ref 207), ((Str.ofString "__weakref__"), 404, .ref 208), ((Str.ofString "__doc__"), 405, .none)])) 4, #[]⟩),
  (206, ⟨.type "type", none, .cls { name := (Str.ofString "Matcher"), bases := [.type "object"], mro := [.ref 206, .type "object"], ns := 205, qualname := (Str.ofString "Matcher"), hasDict := true, slotNames := [], subclasses := [.ref 290, .ref 453, .ref 593, .ref 654], abstract := false, collection := none, hasDel := false }, #[(some (.ref 48)), none, (some (.str (Str.ofString "Matcher") 236)), (some (.str (Str.ofString "Matcher") 244)), (some (.builtin "object.__new__")), (some (.bool true))]⟩),
  (223, ⟨.type "code", none, .fields (List.toArray [.str (Str.ofString "__call__") 420, .str (Str.ofString "NullMatcherClass.__call__") 421, .str (Str.ofString "/claim/cut.py") 422, .int 76 0, .int 1 0, .int 0 0, .int 0 0, .int 3 0, .ref 218, .bool true, .int 181 0, .ref 219, .none, .ref 220, .ref 221, .ref 222, .int 424 0, .int 76 0, .str (Str.ofString "/claim/cut.py") 425]), #[]⟩),
  (224, fnO (subOf pw 5 0) (Str.ofString "NullMatcherClass.__call__") [] .none (.str (Str.ofString "whoosh.matching.mcore") 194) (.ref 223) .none),
  (265, ⟨.type "code", none, .fields (List.toArray [.str (Str.ofString "is_active") 463, .str (Str.ofString "NullMatcherClass.is_active") 464, .str (Str.ofString "/claim/cut.py") 465, .int 94 0, .int 1 0, .int 0 0, .int 0 0, .int 3 0, .ref 260, .bool true, .int 181 0, .ref 261, .none, .ref 262, .ref 263, .ref 264, .int 467 0, .int 94 0, .str (Str.ofString "/claim/cut.py") 468]), #[]⟩),
  (266, fnO (subOf pw 5 6) (Str.ofString "NullMatcherClass.is_active") [] .none (.str (Str.ofString "whoosh.matching.mcore") 194) (.ref 265) .none),
  (289, ⟨.type "dict", none, .dict (List.toArray (enAll P [((Str.ofString "__module__"), 415, .str (Str.ofString "whoosh.matching.mcore") 194), ((Str.ofString "__firstlineno__"), 419, .int 74 418), ((Str.ofString "__call__"), 426, .ref 224), ((Str.ofString "__repr__"), 433, .ref 231), ((Str.ofString "supports_block_quality"), 440, .ref 238), ((Str.ofString "max_quality"), 447, .ref 245), ((Str.ofString "block_quality"), 454, .ref 252), ((Str.ofString "skip_to_quality"), 462, .ref 259), ((Str.ofString "is_active"), 469, .ref 266), ((Str.ofString "reset"), 476, .ref 273), ((Str.ofString "all_ids"), 483, .ref 280), ((Str.ofString "copy"), 490, .ref 287), ((Str.ofString "__static_attributes__"), 491, .ref 288), ((Str.ofString "__doc__"), 492, .none)])) 2, #[]⟩),
  (290, ⟨.type "type", none, .cls { name := (Str.ofString "NullMatcherClass"), bases := [.ref 206], mro := [.ref 290, .ref 206, .type "object"], ns := 289, qualname := (Str.ofString "NullMatcherClass"), hasDict := true, slotNames := [], subclasses := [], abstract := false, collection := none, hasDel := false }, #[(some (.ref 211)), none, (some (.str (Str.ofString "NullMatcherClass") 408)), (some (.str (Str.ofString "NullMatcherClass") 416)), (some (.builtin "object.__new__")), (some (.bool true))]⟩),
  (293, ⟨.type "dict", none, .dict (List.toArray (enAll P [])) 0, #[]⟩),
  (294, ⟨.ref 290, (some 293), .plain, #[]⟩),
  (302, ⟨.type "tuple", none, .seq (List.toArray [.none, .none, .none, .none, .int 0 508, .none, .none, .none]) 0, #[]⟩),
  (308, ⟨.type "code", none, .fields (List.toArray [.str (Str.ofString "__init__") 509, .str (Str.ofString "ListMatcher.__init__") 510, .str (Str.ofString "/claim/cut.py") 511, .int 108 0, .int 10 0, .int 0 0, .int 0 0, .int 3 0, .ref 303, .bool true, .int 181 0, .ref 304, .none, .ref 305, .ref 306, .ref 307, .int 522 0, .int 108 0, .str (Str.ofString "/claim/cut.py") 523]), #[]⟩),
  (309, fnO (subOf pw 7 0) (Str.ofString "ListMatcher.__init__") [] (.ref 302) (.str (Str.ofString "whoosh.matching.mcore") 194) (.ref 308) .none),
  (315, ⟨.type "code", none, .fields (List.toArray [.str (Str.ofString "is_active") 525, .str (Str.ofString "ListMatcher.is_active") 526, .str (Str.ofString "/claim/cut.py") 527, .int 119 0, .int 1 0, .int 0 0, .int 0 0, .int 3 0, .ref 310, .bool true, .int 181 0, .ref 311, .none, .ref 312, .ref 313, .ref 314, .int 529 0, .int 119 0, .str (Str.ofString "/claim/cut.py") 530]), #[]⟩),
  (316, fnO (subOf pw 7 1) (Str.ofString "ListMatcher.is_active") [] .none (.str (Str.ofString "whoosh.matching.mcore") 194) (.ref 315) .none),
  (329, ⟨.type "code", none, .fields (List.toArray [.str (Str.ofString "skip_to") 539, .str (Str.ofString "ListMatcher.skip_to") 540, .str (Str.ofString "/claim/cut.py") 541, .int 125 0, .int 2 0, .int 0 0, .int 0 0, .int 3 0, .ref 324, .bool true, .int 181 0, .ref 325, .none, .ref 326, .ref 327, .ref 328, .int 544 0, .int 125 0, .str (Str.ofString "/claim/cut.py") 545]), #[]⟩),
  (330, fnO (subOf pw 7 3) (Str.ofString "ListMatcher.skip_to") [] .none (.str (Str.ofString "whoosh.matching.mcore") 194) (.ref 329) .none),
  (386, ⟨.type "code", none, .fields (List.toArray [.str (Str.ofString "id") 599, .str (Str.ofString "ListMatcher.id") 600, .str (Str.ofString "/claim/cut.py") 601, .int 162 0, .int 1 0, .int 0 0, .int 0 0, .int 3 0, .ref 381, .bool true, .int 181 0, .ref 382, .none, .ref 383, .ref 384, .ref 385, .int 603 0, .int 162 0, .str (Str.ofString "/claim/cut.py") 604]), #[]⟩),
  (387, fnO (subOf pw 7 11) (Str.ofString "ListMatcher.id") [] .none (.str (Str.ofString "whoosh.matching.mcore") 194) (.ref 386) .none),
  (414, ⟨.type "code", none, .fields (List.toArray [.str (Str.ofString "next") 627, .str (Str.ofString "ListMatcher.next") 628, .str (Str.ofString "/claim/cut.py") 629, .int 174 0, .int 1 0, .int 0 0, .int 0 0, .int 3 0, .ref 409, .bool true, .int 181 0, .ref 410, .none, .ref 411, .ref 412, .ref 413, .int 631 0, .int 174 0, .str (Str.ofString "/claim/cut.py") 632]), #[]⟩),
  (415, fnO (subOf pw 7 15) (Str.ofString "ListMatcher.next") [] .none (.str (Str.ofString "whoosh.matching.mcore") 194) (.ref 414) .none),
  (421, ⟨.type "code", none, .fields (List.toArray [.str (Str.ofString "weight") 634, .str (Str.ofString "ListMatcher.weight") 635, .str (Str.ofString "/claim/cut.py") 636, .int 177 0, .int 1 0, .int 0 0, .int 0 0, .int 3 0, .ref 416, .bool true, .int 181 0, .ref 417, .none, .ref 418, .ref 419, .ref 420, .int 638 0, .int 177 0, .str (Str.ofString "/claim/cut.py") 639]), #[]⟩),
  (422, fnO (subOf pw 7 16) (Str.ofString "ListMatcher.weight") [] .none (.str (Str.ofString "whoosh.matching.mcore") 194) (.ref 421) .none),
  (452, ⟨.type "dict", none, .dict (List.toArray (enAll P [((Str.ofString "__module__"), 503, .str (Str.ofString "whoosh.matching.mcore") 194), ((Str.ofString "__firstlineno__"), 507, .int 106 506), ((Str.ofString "__init__"), 524, .ref 309), ((Str.ofString "is_active"), 531, .ref 316), ((Str.ofString "reset"), 538, .ref 323), ((Str.ofString "skip_to"), 546, .ref 330), ((Str.ofString "term"), 553, .ref 337), ((Str.ofString "copy"), 560, .ref 344), ((Str.ofString "replace"), 569, .ref 352), ((Str.ofString "supports_block_quality"), 576, .ref 359), ((Str.ofString "max_quality"), 583, .ref 366), ((Str.ofString "block_quality"), 590, .ref 373), ((Str.ofString "skip_to_quality"), 598, .ref 380), ((Str.ofString "id"), 605, .ref 387), ((Str.ofString "all_ids"), 612, .ref 394), ((Str.ofString "all_items"), 619, .ref 401), ((Str.ofString "value"), 626, .ref 408), ((Str.ofString "next"), 633, .ref 415), ((Str.ofString "weight"), 640, .ref 422), ((Str.ofString "block_min_length"), 647, .ref 429), ((Str.ofString "block_max_length"), 654, .ref 436), ((Str.ofString "block_max_weight"), 661, .ref 443), ((Str.ofString "score"), 668, .ref 450), ((Str.ofString "__static_attributes__"), 678, .ref 451), ((Str.ofString "__doc__"), 679, .none)])) 2, #[]⟩),
  (453, ⟨.type "type", none, .cls { name := (Str.ofString "ListMatcher"), bases := [.ref 206], mro := [.ref 453, .ref 206, .type "object"], ns := 452, qualname := (Str.ofString "ListMatcher"), hasDict := true, slotNames := [], subclasses := [], abstract := false, collection := none, hasDel := false }, #[(some (.ref 295)), none, (some (.str (Str.ofString "ListMatcher") 496)), (some (.str (Str.ofString "ListMatcher") 504)), (some (.builtin "object.__new__")), (some (.bool true))]⟩),
  (463, ⟨.type "tuple", none, .seq (List.toArray [.none, .int 0 696]) 0, #[]⟩),
  (469, ⟨.type "code", none, .fields (List.toArray [.str (Str.ofString "__init__") 697, .str (Str.ofString "MultiMatcher.__init__") 698, .str (Str.ofString "/claim/cut.py") 699, .int 209 0, .int 5 0, .int 0 0, .int 0 0, .int 3 0, .ref 464, .bool true, .int 181 0, .ref 465, .none, .ref 466, .ref 467, .ref 468, .int 705 0, .int 209 0, .str (Str.ofString "/claim/cut.py") 706]), #[]⟩),
  (470, fnO (subOf pw 9 0) (Str.ofString "MultiMatcher.__init__") [] (.ref 463) (.str (Str.ofString "whoosh.matching.wrappers") 682) (.ref 469) .none),
  (476, ⟨.type "code", none, .fields (List.toArray [.str (Str.ofString "is_active") 708, .str (Str.ofString "MultiMatcher.is_active") 709, .str (Str.ofString "/claim/cut.py") 710, .int 216 0, .int 1 0, .int 0 0, .int 0 0, .int 3 0, .ref 471, .bool true, .int 181 0, .ref 472, .none, .ref 473, .ref 474, .ref 475, .int 712 0, .int 216 0, .str (Str.ofString "/claim/cut.py") 713]), #[]⟩),
  (477, fnO (subOf pw 9 1) (Str.ofString "MultiMatcher.is_active") [] .none (.str (Str.ofString "whoosh.matching.wrappers") 682) (.ref 476) .none),
  (497, ⟨.type "code", none, .fields (List.toArray [.str (Str.ofString "_next_matcher") 729, .str (Str.ofString "MultiMatcher._next_matcher") 730, .str (Str.ofString "/claim/cut.py") 731, .int 225 0, .int 1 0, .int 0 0, .int 0 0, .int 3 0, .ref 492, .bool true, .int 181 0, .ref 493, .none, .ref 494, .ref 495, .ref 496, .int 734 0, .int 225 0, .str (Str.ofString "/claim/cut.py") 735]), #[]⟩),
  (498, fnO (subOf pw 9 4) (Str.ofString "MultiMatcher._next_matcher") [] .none (.str (Str.ofString "whoosh.matching.wrappers") 682) (.ref 497) .none),
  (513, ⟨.type "tuple", none, .seq (List.toArray [.int 0 751]) 0, #[]⟩),
  (519, ⟨.type "code", none, .fields (List.toArray [.str (Str.ofString "replace") 752, .str (Str.ofString "MultiMatcher.replace") 753, .str (Str.ofString "/claim/cut.py") 754, .int 236 0, .int 2 0, .int 0 0, .int 0 0, .int 3 0, .ref 514, .bool true, .int 181 0, .ref 515, .none, .ref 516, .ref 517, .ref 518, .int 758 0, .int 236 0, .str (Str.ofString "/claim/cut.py") 759]), #[]⟩),
  (520, fnO (subOf pw 9 7) (Str.ofString "MultiMatcher.replace") [] (.ref 513) (.str (Str.ofString "whoosh.matching.wrappers") 682) (.ref 519) .none),
  (526, ⟨.type "code", none, .fields (List.toArray [.str (Str.ofString "id") 761, .str (Str.ofString "MultiMatcher.id") 762, .str (Str.ofString "/claim/cut.py") 763, .int 246 0, .int 1 0, .int 0 0, .int 0 0, .int 3 0, .ref 521, .bool true, .int 181 0, .ref 522, .none, .ref 523, .ref 524, .ref 525, .int 766 0, .int 246 0, .str (Str.ofString "/claim/cut.py") 767]), #[]⟩),
  (527, fnO (subOf pw 9 8) (Str.ofString "MultiMatcher.id") [] .none (.str (Str.ofString "whoosh.matching.wrappers") 682) (.ref 526) .none),
  (547, ⟨.type "code", none, .fields (List.toArray [.str (Str.ofString "next") 783, .str (Str.ofString "MultiMatcher.next") 784, .str (Str.ofString "/claim/cut.py") 785, .int 256 0, .int 1 0, .int 0 0, .int 0 0, .int 3 0, .ref 542, .bool true, .int 181 0, .ref 543, .none, .ref 544, .ref 545, .ref 546, .int 787 0, .int 256 0, .str (Str.ofString "/claim/cut.py") 788]), #[]⟩),
  (548, fnO (subOf pw 9 11) (Str.ofString "MultiMatcher.next") [] .none (.str (Str.ofString "whoosh.matching.wrappers") 682) (.ref 547) .none),
  (554, ⟨.type "code", none, .fields (List.toArray [.str (Str.ofString "skip_to") 790, .str (Str.ofString "MultiMatcher.skip_to") 791, .str (Str.ofString "/claim/cut.py") 792, .int 263 0, .int 2 0, .int 0 0, .int 0 0, .int 3 0, .ref 549, .bool true, .int 181 0, .ref 550, .none, .ref 551, .ref 552, .ref 553, .int 800 0, .int 263 0, .str (Str.ofString "/claim/cut.py") 801]), #[]⟩),
  (555, fnO (subOf pw 9 12) (Str.ofString "MultiMatcher.skip_to") [] .none (.str (Str.ofString "whoosh.matching.wrappers") 682) (.ref 554) .none),
  (582, ⟨.type "code", none, .fields (List.toArray [.str (Str.ofString "weight") 824, .str (Str.ofString "MultiMatcher.weight") 825, .str (Str.ofString "/claim/cut.py") 826, .int 289 0, .int 1 0, .int 0 0, .int 0 0, .int 3 0, .ref 577, .bool true, .int 181 0, .ref 578, .none, .ref 579, .ref 580, .ref 581, .int 828 0, .int 289 0, .str (Str.ofString "/claim/cut.py") 829]), #[]⟩),
  (583, fnO (subOf pw 9 16) (Str.ofString "MultiMatcher.weight") [] .none (.str (Str.ofString "whoosh.matching.wrappers") 682) (.ref 582) .none),
  (589, ⟨.type "code", none, .fields (List.toArray [.str (Str.ofString "score") 831, .str (Str.ofString "MultiMatcher.score") 832, .str (Str.ofString "/claim/cut.py") 833, .int 292 0, .int 1 0, .int 0 0, .int 0 0, .int 3 0, .ref 584, .bool true, .int 181 0, .ref 585, .none, .ref 586, .ref 587, .ref 588, .int 835 0, .int 292 0, .str (Str.ofString "/claim/cut.py") 836]), #[]⟩),
  (590, fnO (subOf pw 9 17) (Str.ofString "MultiMatcher.score") [] .none (.str (Str.ofString "whoosh.matching.wrappers") 682) (.ref 589) .none),
  (592, ⟨.type "dict", none, .dict (List.toArray (enAll P [((Str.ofString "__module__"), 691, .str (Str.ofString "whoosh.matching.wrappers") 682), ((Str.ofString "__firstlineno__"), 695, .int 207 694), ((Str.ofString "__init__"), 707, .ref 470), ((Str.ofString "is_active"), 714, .ref 477), ((Str.ofString "reset"), 721, .ref 484), ((Str.ofString "children"), 728, .ref 491), ((Str.ofString "_next_matcher"), 736, .ref 498), ((Str.ofString "copy"), 743, .ref 505), ((Str.ofString "depth"), 750, .ref 512), ((Str.ofString "replace"), 760, .ref 520), ((Str.ofString "id"), 768, .ref 527), ((Str.ofString "all_ids"), 775, .ref 534), ((Str.ofString "value"), 782, .ref 541), ((Str.ofString "next"), 789, .ref 548), ((Str.ofString "skip_to"), 802, .ref 555), ((Str.ofString "supports_block_quality"), 809, .ref 562), ((Str.ofString "max_quality"), 816, .ref 569), ((Str.ofString "block_quality"), 823, .ref 576), ((Str.ofString "weight"), 830, .ref 583), ((Str.ofString "score"), 837, .ref 590), ((Str.ofString "__static_attributes__"), 842, .ref 591), ((Str.ofString "__doc__"), 843, .none)])) 2, #[]⟩),
  (593, ⟨.type "type", none, .cls { name := (Str.ofString "MultiMatcher"), bases := [.ref 206], mro := [.ref 593, .ref 206, .type "object"], ns := 592, qualname := (Str.ofString "MultiMatcher"), hasDict := true, slotNames := [], subclasses := [], abstract := false, collection := none, hasDel := false }, #[(some (.ref 456)), none, (some (.str (Str.ofString "MultiMatcher") 684)), (some (.str (Str.ofString "MultiMatcher") 692)), (some (.builtin "object.__new__")), (some (.bool true))]⟩),
  (608, ⟨.type "code", none, .fields (List.toArray [.str (Str.ofString "__init__") 860, .str (Str.ofString "BiMatcher.__init__") 861, .str (Str.ofString "/claim/cut.py") 862, .int 297 0, .int 3 0, .int 0 0, .int 0 0, .int 3 0, .ref 603, .bool true, .int 181 0, .ref 604, .none, .ref 605, .ref 606, .ref 607, .int 866 0, .int 297 0, .str (Str.ofString "/claim/cut.py") 867]), #[]⟩),
  (609, fnO (subOf pw 11 0) (Str.ofString "BiMatcher.__init__") [] .none (.str (Str.ofString "whoosh.matching.binary") 846) (.ref 608) .none),
  (653, ⟨.type "dict", none, .dict (List.toArray (enAll P [((Str.ofString "__module__"), 855, .str (Str.ofString "whoosh.matching.binary") 846), ((Str.ofString "__firstlineno__"), 859, .int 295 858), ((Str.ofString "__init__"), 868, .ref 609), ((Str.ofString "reset"), 875, .ref 616), ((Str.ofString "children"), 882, .ref 623), ((Str.ofString "copy"), 889, .ref 630), ((Str.ofString "depth"), 896, .ref 637), ((Str.ofString "skip_to"), 906, .ref 644), ((Str.ofString "supports_block_quality"), 913, .ref 651), ((Str.ofString "__static_attributes__"), 916, .ref 652), ((Str.ofString "__doc__"), 917, .none)])) 2, #[]⟩),
  (654, ⟨.type "type", none, .cls { name := (Str.ofString "BiMatcher"), bases := [.ref 206], mro := [.ref 654, .ref 206, .type "object"], ns := 653, qualname := (Str.ofString "BiMatcher"), hasDict := true, slotNames := [], subclasses := [.ref 694, .ref 982], abstract := false, collection := none, hasDel := false }, #[(some (.ref 596)), none, (some (.str (Str.ofString "BiMatcher") 848)), (some (.str (Str.ofString "BiMatcher") 856)), (some (.builtin "object.__new__")), (some (.bool true))]⟩),
  (683, ⟨.type "code", none, .fields (List.toArray [.str (Str.ofString "weight") 948, .str (Str.ofString "AdditiveBiMatcher.weight") 949, .str (Str.ofString "/claim/cut.py") 950, .int 340 0, .int 1 0, .int 0 0, .int 0 0, .int 3 0, .ref 678, .bool true, .int 181 0, .ref 679, .none, .ref 680, .ref 681, .ref 682, .int 952 0, .int 340 0, .str (Str.ofString "/claim/cut.py") 953]), #[]⟩),
  (684, fnO (subOf pw 12 2) (Str.ofString "AdditiveBiMatcher.weight") [] .none (.str (Str.ofString "whoosh.matching.binary") 846) (.ref 683) .none),
  (690, ⟨.type "code", none, .fields (List.toArray [.str (Str.ofString "score") 955, .str (Str.ofString "AdditiveBiMatcher.score") 956, .str (Str.ofString "/claim/cut.py") 957, .int 343 0, .int 1 0, .int 0 0, .int 0 0, .int 3 0, .ref 685, .bool true, .int 181 0, .ref 686, .none, .ref 687, .ref 688, .ref 689, .int 959 0, .int 343 0, .str (Str.ofString "/claim/cut.py") 960]), #[]⟩),
  (691, fnO (subOf pw 12 3) (Str.ofString "AdditiveBiMatcher.score") [] .none (.str (Str.ofString "whoosh.matching.binary") 846) (.ref 690) .none),
  (693, ⟨.type "dict", none, .dict (List.toArray (enAll P [((Str.ofString "__module__"), 927, .str (Str.ofString "whoosh.matching.binary") 846), ((Str.ofString "__firstlineno__"), 931, .int 322 930), ((Str.ofString "max_quality"), 939, .ref 670), ((Str.ofString "block_quality"), 947, .ref 677), ((Str.ofString "weight"), 954, .ref 684), ((Str.ofString "score"), 961, .ref 691), ((Str.ofString "__static_attributes__"), 962, .ref 692), ((Str.ofString "__doc__"), 963, .none)])) 2, #[]⟩),
  (694, ⟨.type "type", none, .cls { name := (Str.ofString "AdditiveBiMatcher"), bases := [.ref 654], mro := [.ref 694, .ref 654, .ref 206, .type "object"], ns := 693, qualname := (Str.ofString "AdditiveBiMatcher"), hasDict := true, slotNames := [], subclasses := [.ref 763, .ref 855, .ref 1081], abstract := false, collection := none, hasDel := false }, #[(some (.ref 657)), none, (some (.str (Str.ofString "AdditiveBiMatcher") 920)), (some (.str (Str.ofString "AdditiveBiMatcher") 928)), (some (.builtin "object.__new__")), (some (.bool true))]⟩),
  (704, ⟨.type "tuple", none, .seq (List.toArray [.int 0 979]) 0, #[]⟩),
  (710, ⟨.type "code", none, .fields (List.toArray [.str (Str.ofString "replace") 980, .str (Str.ofString "UnionMatcher.replace") 981, .str (Str.ofString "/claim/cut.py") 982, .int 348 0, .int 2 0, .int 0 0, .int 0 0, .int 3 0, .ref 705, .bool true, .int 181 0, .ref 706, .none, .ref 707, .ref 708, .ref 709, .int 991 0, .int 348 0, .str (Str.ofString "/claim/cut.py") 992]), #[]⟩),
  (711, fnO (subOf pw 13 1) (Str.ofString "UnionMatcher.replace") [] (.ref 704) (.str (Str.ofString "whoosh.matching.binary") 846) (.ref 710) .none),
  (717, ⟨.type "code", none, .fields (List.toArray [.str (Str.ofString "is_active") 994, .str (Str.ofString "UnionMatcher.is_active") 995, .str (Str.ofString "/claim/cut.py") 996, .int 376 0, .int 1 0, .int 0 0, .int 0 0, .int 3 0, .ref 712, .bool true, .int 181 0, .ref 713, .none, .ref 714, .ref 715, .ref 716, .int 998 0, .int 376 0, .str (Str.ofString "/claim/cut.py") 999]), #[]⟩),
  (718, fnO (subOf pw 13 2) (Str.ofString "UnionMatcher.is_active") [] .none (.str (Str.ofString "whoosh.matching.binary") 846) (.ref 717) .none),
  (724, ⟨.type "code", none, .fields (List.toArray [.str (Str.ofString "skip_to") 1001, .str (Str.ofString "UnionMatcher.skip_to") 1002, .str (Str.ofString "/claim/cut.py") 1003, .int 379 0, .int 2 0, .int 0 0, .int 0 0, .int 3 0, .ref 719, .bool true, .int 181 0, .ref 720, .none, .ref 721, .ref 722, .ref 723, .int 1008 0, .int 379 0, .str (Str.ofString "/claim/cut.py") 1009]), #[]⟩),
  (725, fnO (subOf pw 13 3) (Str.ofString "UnionMatcher.skip_to") [] .none (.str (Str.ofString "whoosh.matching.binary") 846) (.ref 724) .none),
  (731, ⟨.type "code", none, .fields (List.toArray [.str (Str.ofString "id") 1011, .str (Str.ofString "UnionMatcher.id") 1012, .str (Str.ofString "/claim/cut.py") 1013, .int 388 0, .int 1 0, .int 0 0, .int 0 0, .int 3 0, .ref 726, .bool true, .int 181 0, .ref 727, .none, .ref 728, .ref 729, .ref 730, .int 1018 0, .int 388 0, .str (Str.ofString "/claim/cut.py") 1019]), #[]⟩),
  (732, fnO (subOf pw 13 4) (Str.ofString "UnionMatcher.id") [] .none (.str (Str.ofString "whoosh.matching.binary") 846) (.ref 731) .none),
  (738, ⟨.type "code", none, .fields (List.toArray [.str (Str.ofString "next") 1021, .str (Str.ofString "UnionMatcher.next") 1022, .str (Str.ofString "/claim/cut.py") 1023, .int 403 0, .int 1 0, .int 0 0, .int 0 0, .int 3 0, .ref 733, .bool true, .int 181 0, .ref 734, .none, .ref 735, .ref 736, .ref 737, .int 1033 0, .int 403 0, .str (Str.ofString "/claim/cut.py") 1034]), #[]⟩),
  (739, fnO (subOf pw 13 5) (Str.ofString "UnionMatcher.next") [] .none (.str (Str.ofString "whoosh.matching.binary") 846) (.ref 738) .none),
  (745, ⟨.type "code", none, .fields (List.toArray [.str (Str.ofString "weight") 1036, .str (Str.ofString "UnionMatcher.weight") 1037, .str (Str.ofString "/claim/cut.py") 1038, .int 424 0, .int 1 0, .int 0 0, .int 0 0, .int 3 0, .ref 740, .bool true, .int 181 0, .ref 741, .none, .ref 742, .ref 743, .ref 744, .int 1044 0, .int 424 0, .str (Str.ofString "/claim/cut.py") 1045]), #[]⟩),
  (746, fnO (subOf pw 13 6) (Str.ofString "UnionMatcher.weight") [] .none (.str (Str.ofString "whoosh.matching.binary") 846) (.ref 745) .none),
  (752, ⟨.type "code", none, .fields (List.toArray [.str (Str.ofString "score") 1047, .str (Str.ofString "UnionMatcher.score") 1048, .str (Str.ofString "/claim/cut.py") 1049, .int 440 0, .int 1 0, .int 0 0, .int 0 0, .int 3 0, .ref 747, .bool true, .int 181 0, .ref 748, .none, .ref 749, .ref 750, .ref 751, .int 1055 0, .int 440 0, .str (Str.ofString "/claim/cut.py") 1056]), #[]⟩),
  (753, fnO (subOf pw 13 7) (Str.ofString "UnionMatcher.score") [] .none (.str (Str.ofString "whoosh.matching.binary") 846) (.ref 752) .none),
  (762, ⟨.type "dict", none, .dict (List.toArray (enAll P [((Str.ofString "__module__"), 973, .str (Str.ofString "whoosh.matching.binary") 846), ((Str.ofString "__firstlineno__"), 977, .int 345 976), ((Str.ofString "_id"), 978, .none), ((Str.ofString "replace"), 993, .ref 711), ((Str.ofString "is_active"), 1000, .ref 718), ((Str.ofString "skip_to"), 1010, .ref 725), ((Str.ofString "id"), 1020, .ref 732), ((Str.ofString "next"), 1035, .ref 739), ((Str.ofString "weight"), 1046, .ref 746), ((Str.ofString "score"), 1057, .ref 753), ((Str.ofString "skip_to_quality"), 1065, .ref 760), ((Str.ofString "__static_attributes__"), 1067, .ref 761), ((Str.ofString "__doc__"), 1068, .none)])) 2, #[]⟩),
  (763, ⟨.type "type", none, .cls { name := (Str.ofString "UnionMatcher"), bases := [.ref 694], mro := [.ref 763, .ref 694, .ref 654, .ref 206, .type "object"], ns := 762, qualname := (Str.ofString "UnionMatcher"), hasDict := true, slotNames := [], subclasses := [], abstract := false, collection := none, hasDel := false }, #[(some (.ref 697)), none, (some (.str (Str.ofString "UnionMatcher") 966)), (some (.str (Str.ofString "UnionMatcher") 974)), (some (.builtin "object.__new__")), (some (.bool true))]⟩),
  (769, ⟨.type "cell", none, .cell (some (.ref 855)), #[]⟩),
  (774, ⟨.type "tuple", none, .seq (List.toArray [.ref 769]) 0, #[]⟩),
  (780, ⟨.type "code", none, .fields (List.toArray [.str (Str.ofString "__init__") 1083, .str (Str.ofString "IntersectionMatcher.__init__") 1084, .str (Str.ofString "/claim/cut.py") 1085, .int 460 0, .int 3 0, .int 0 0, .int 0 0, .int 3 0, .ref 775, .bool true, .int 181 0, .ref 776, .none, .ref 777, .ref 778, .ref 779, .int 1090 0, .int 460 0, .str (Str.ofString "/claim/cut.py") 1091]), #[]⟩),
  (781, fnO (subOf pw 14 0) (Str.ofString "IntersectionMatcher.__init__") [((Str.ofString "__class__"), 769)] .none (.str (Str.ofString "whoosh.matching.binary") 846) (.ref 780) (.ref 774)),
  (794, ⟨.type "code", none, .fields (List.toArray [.str (Str.ofString "_find_first") 1100, .str (Str.ofString "IntersectionMatcher._find_first") 1101, .str (Str.ofString "/claim/cut.py") 1102, .int 467 0, .int 1 0, .int 0 0, .int 0 0, .int 3 0, .ref 789, .bool true, .int 181 0, .ref 790, .none, .ref 791, .ref 792, .ref 793, .int 1104 0, .int 467 0, .str (Str.ofString "/claim/cut.py") 1105]), #[]⟩),
  (795, fnO (subOf pw 14 2) (Str.ofString "IntersectionMatcher._find_first") [] .none (.str (Str.ofString "whoosh.matching.binary") 846) (.ref 794) .none),
  (796, ⟨.type "tuple", none, .seq (List.toArray [.int 0 1107]) 0, #[]⟩),
  (802, ⟨.type "code", none, .fields (List.toArray [.str (Str.ofString "replace") 1108, .str (Str.ofString "IntersectionMatcher.replace") 1109, .str (Str.ofString "/claim/cut.py") 1110, .int 471 0, .int 2 0, .int 0 0, .int 0 0, .int 3 0, .ref 797, .bool true, .int 181 0, .ref 798, .none, .ref 799, .ref 800, .ref 801, .int 1121 0, .int 471 0, .str (Str.ofString "/claim/cut.py") 1122]), #[]⟩),
  (803, fnO (subOf pw 14 3) (Str.ofString "IntersectionMatcher.replace") [] (.ref 796) (.str (Str.ofString "whoosh.matching.binary") 846) (.ref 802) .none),
  (809, ⟨.type "code", none, .fields (List.toArray [.str (Str.ofString "is_active") 1124, .str (Str.ofString "IntersectionMatcher.is_active") 1125, .str (Str.ofString "/claim/cut.py") 1126, .int 502 0, .int 1 0, .int 0 0, .int 0 0, .int 3 0, .ref 804, .bool true, .int 181 0, .ref 805, .none, .ref 806, .ref 807, .ref 808, .int 1128 0, .int 502 0, .str (Str.ofString "/claim/cut.py") 1129]), #[]⟩),
  (810, fnO (subOf pw 14 4) (Str.ofString "IntersectionMatcher.is_active") [] .none (.str (Str.ofString "whoosh.matching.binary") 846) (.ref 809) .none),
  (816, ⟨.type "code", none, .fields (List.toArray [.str (Str.ofString "_find_next") 1131, .str (Str.ofString "IntersectionMatcher._find_next") 1132, .str (Str.ofString "/claim/cut.py") 1133, .int 505 0, .int 1 0, .int 0 0, .int 0 0, .int 3 0, .ref 811, .bool true, .int 181 0, .ref 812, .none, .ref 813, .ref 814, .ref 815, .int 1142 0, .int 505 0, .str (Str.ofString "/claim/cut.py") 1143]), #[]⟩),
  (817, fnO (subOf pw 14 5) (Str.ofString "IntersectionMatcher._find_next") [] .none (.str (Str.ofString "whoosh.matching.binary") 846) (.ref 816) .none),
  (823, ⟨.type "code", none, .fields (List.toArray [.str (Str.ofString "id") 1145, .str (Str.ofString "IntersectionMatcher.id") 1146, .str (Str.ofString "/claim/cut.py") 1147, .int 527 0, .int 1 0, .int 0 0, .int 0 0, .int 3 0, .ref 818, .bool true, .int 181 0, .ref 819, .none, .ref 820, .ref 821, .ref 822, .int 1149 0, .int 527 0, .str (Str.ofString "/claim/cut.py") 1150]), #[]⟩),
  (824, fnO (subOf pw 14 6) (Str.ofString "IntersectionMatcher.id") [] .none (.str (Str.ofString "whoosh.matching.binary") 846) (.ref 823) .none),
  (837, ⟨.type "code", none, .fields (List.toArray [.str (Str.ofString "skip_to") 1159, .str (Str.ofString "IntersectionMatcher.skip_to") 1160, .str (Str.ofString "/claim/cut.py") 1161, .int 533 0, .int 2 0, .int 0 0, .int 0 0, .int 3 0, .ref 832, .bool true, .int 181 0, .ref 833, .none, .ref 834, .ref 835, .ref 836, .int 1167 0, .int 533 0, .str (Str.ofString "/claim/cut.py") 1168]), #[]⟩),
  (838, fnO (subOf pw 14 8) (Str.ofString "IntersectionMatcher.skip_to") [] .none (.str (Str.ofString "whoosh.matching.binary") 846) (.ref 837) .none),
  (851, ⟨.type "code", none, .fields (List.toArray [.str (Str.ofString "next") 1178, .str (Str.ofString "IntersectionMatcher.next") 1179, .str (Str.ofString "/claim/cut.py") 1180, .int 547 0, .int 1 0, .int 0 0, .int 0 0, .int 3 0, .ref 846, .bool true, .int 181 0, .ref 847, .none, .ref 848, .ref 849, .ref 850, .int 1184 0, .int 547 0, .str (Str.ofString "/claim/cut.py") 1185]), #[]⟩),
  (852, fnO (subOf pw 14 10) (Str.ofString "IntersectionMatcher.next") [] .none (.str (Str.ofString "whoosh.matching.binary") 846) (.ref 851) .none),
  (854, ⟨.type "dict", none, .dict (List.toArray (enAll P [((Str.ofString "__module__"), 1078, .str (Str.ofString "whoosh.matching.binary") 846), ((Str.ofString "__firstlineno__"), 1082, .int 458 1081), ((Str.ofString "__init__"), 1092, .ref 781), ((Str.ofString "reset"), 1099, .ref 788), ((Str.ofString "_find_first"), 1106, .ref 795), ((Str.ofString "replace"), 1123, .ref 803), ((Str.ofString "is_active"), 1130, .ref 810), ((Str.ofString "_find_next"), 1144, .ref 817), ((Str.ofString "id"), 1151, .ref 824), ((Str.ofString "all_ids"), 1158, .ref 831), ((Str.ofString "skip_to"), 1169, .ref 838), ((Str.ofString "skip_to_quality"), 1177, .ref 845), ((Str.ofString "next"), 1186, .ref 852), ((Str.ofString "__static_attributes__"), 1187, .ref 853), ((Str.ofString "__doc__"), 1189, .none)])) 3, #[]⟩),
  (855, ⟨.type "type", none, .cls { name := (Str.ofString "IntersectionMatcher"), bases := [.ref 694], mro := [.ref 855, .ref 694, .ref 654, .ref 206, .type "object"], ns := 854, qualname := (Str.ofString "IntersectionMatcher"), hasDict := true, slotNames := [], subclasses := [], abstract := false, collection := none, hasDel := false }, #[(some (.ref 766)), none, (some (.str (Str.ofString "IntersectionMatcher") 1071)), (some (.str (Str.ofString "IntersectionMatcher") 1079)), (some (.builtin "object.__new__")), (some (.bool true))]⟩),
  (861, ⟨.type "cell", none, .cell (some (.ref 982)), #[]⟩),
  (866, ⟨.type "tuple", none, .seq (List.toArray [.ref 861]) 0, #[]⟩),
  (872, ⟨.type "code", none, .fields (List.toArray [.str (Str.ofString "__init__") 1204, .str (Str.ofString "AndNotMatcher.__init__") 1205, .str (Str.ofString "/claim/cut.py") 1206, .int 556 0, .int 3 0, .int 0 0, .int 0 0, .int 3 0, .ref 867, .bool true, .int 181 0, .ref 868, .none, .ref 869, .ref 870, .ref 871, .int 1211 0, .int 556 0, .str (Str.ofString "/claim/cut.py") 1212]), #[]⟩),
  (873, fnO (subOf pw 15 0) (Str.ofString "AndNotMatcher.__init__") [((Str.ofString "__class__"), 861)] .none (.str (Str.ofString "whoosh.matching.binary") 846) (.ref 872) (.ref 866)),
  (886, ⟨.type "code", none, .fields (List.toArray [.str (Str.ofString "_find_first") 1221, .str (Str.ofString "AndNotMatcher._find_first") 1222, .str (Str.ofString "/claim/cut.py") 1223, .int 563 0, .int 1 0, .int 0 0, .int 0 0, .int 3 0, .ref 881, .bool true, .int 181 0, .ref 882, .none, .ref 883, .ref 884, .ref 885, .int 1225 0, .int 563 0, .str (Str.ofString "/claim/cut.py") 1226]), #[]⟩),
  (887, fnO (subOf pw 15 2) (Str.ofString "AndNotMatcher._find_first") [] .none (.str (Str.ofString "whoosh.matching.binary") 846) (.ref 886) .none),
  (893, ⟨.type "code", none, .fields (List.toArray [.str (Str.ofString "is_active") 1228, .str (Str.ofString "AndNotMatcher.is_active") 1229, .str (Str.ofString "/claim/cut.py") 1230, .int 567 0, .int 1 0, .int 0 0, .int 0 0, .int 3 0, .ref 888, .bool true, .int 181 0, .ref 889, .none, .ref 890, .ref 891, .ref 892, .int 1232 0, .int 567 0, .str (Str.ofString "/claim/cut.py") 1233]), #[]⟩),
  (894, fnO (subOf pw 15 3) (Str.ofString "AndNotMatcher.is_active") [] .none (.str (Str.ofString "whoosh.matching.binary") 846) (.ref 893) .none),
  (900, ⟨.type "code", none, .fields (List.toArray [.str (Str.ofString "_find_next") 1235, .str (Str.ofString "AndNotMatcher._find_next") 1236, .str (Str.ofString "/claim/cut.py") 1237, .int 570 0, .int 1 0, .int 0 0, .int 0 0, .int 3 0, .ref 895, .bool true, .int 181 0, .ref 896, .none, .ref 897, .ref 898, .ref 899, .int 1244 0, .int 570 0, .str (Str.ofString "/claim/cut.py") 1245]), #[]⟩),
  (901, fnO (subOf pw 15 4) (Str.ofString "AndNotMatcher._find_next") [] .none (.str (Str.ofString "whoosh.matching.binary") 846) (.ref 900) .none),
  (909, ⟨.type "tuple", none, .seq (List.toArray [.int 0 1254]) 0, #[]⟩),
  (915, ⟨.type "code", none, .fields (List.toArray [.str (Str.ofString "replace") 1255, .str (Str.ofString "AndNotMatcher.replace") 1256, .str (Str.ofString "/claim/cut.py") 1257, .int 591 0, .int 2 0, .int 0 0, .int 0 0, .int 3 0, .ref 910, .bool true, .int 181 0, .ref 911, .none, .ref 912, .ref 913, .ref 914, .int 1262 0, .int 591 0, .str (Str.ofString "/claim/cut.py") 1263]), #[]⟩),
  (916, fnO (subOf pw 15 6) (Str.ofString "AndNotMatcher.replace") [] (.ref 909) (.str (Str.ofString "whoosh.matching.binary") 846) (.ref 915) .none),
  (943, ⟨.type "code", none, .fields (List.toArray [.str (Str.ofString "id") 1287, .str (Str.ofString "AndNotMatcher.id") 1288, .str (Str.ofString "/claim/cut.py") 1289, .int 614 0, .int 1 0, .int 0 0, .int 0 0, .int 3 0, .ref 938, .bool true, .int 181 0, .ref 939, .none, .ref 940, .ref 941, .ref 942, .int 1291 0, .int 614 0, .str (Str.ofString "/claim/cut.py") 1292]), #[]⟩),
  (944, fnO (subOf pw 15 10) (Str.ofString "AndNotMatcher.id") [] .none (.str (Str.ofString "whoosh.matching.binary") 846) (.ref 943) .none),
  (950, ⟨.type "code", none, .fields (List.toArray [.str (Str.ofString "next") 1294, .str (Str.ofString "AndNotMatcher.next") 1295, .str (Str.ofString "/claim/cut.py") 1296, .int 617 0, .int 1 0, .int 0 0, .int 0 0, .int 3 0, .ref 945, .bool true, .int 181 0, .ref 946, .none, .ref 947, .ref 948, .ref 949, .int 1300 0, .int 617 0, .str (Str.ofString "/claim/cut.py") 1301]), #[]⟩),
  (951, fnO (subOf pw 15 11) (Str.ofString "AndNotMatcher.next") [] .none (.str (Str.ofString "whoosh.matching.binary") 846) (.ref 950) .none),
  (957, ⟨.type "code", none, .fields (List.toArray [.str (Str.ofString "skip_to") 1303, .str (Str.ofString "AndNotMatcher.skip_to") 1304, .str (Str.ofString "/claim/cut.py") 1305, .int 626 0, .int 2 0, .int 0 0, .int 0 0, .int 3 0, .ref 952, .bool true, .int 181 0, .ref 953, .none, .ref 954, .ref 955, .ref 956, .int 1308 0, .int 626 0, .str (Str.ofString "/claim/cut.py") 1309]), #[]⟩),
  (958, fnO (subOf pw 15 12) (Str.ofString "AndNotMatcher.skip_to") [] .none (.str (Str.ofString "whoosh.matching.binary") 846) (.ref 957) .none),
  (964, ⟨.type "code", none, .fields (List.toArray [.str (Str.ofString "weight") 1311, .str (Str.ofString "AndNotMatcher.weight") 1312, .str (Str.ofString "/claim/cut.py") 1313, .int 636 0, .int 1 0, .int 0 0, .int 0 0, .int 3 0, .ref 959, .bool true, .int 181 0, .ref 960, .none, .ref 961, .ref 962, .ref 963, .int 1315 0, .int 636 0, .str (Str.ofString "/claim/cut.py") 1316]), #[]⟩),
  (965, fnO (subOf pw 15 13) (Str.ofString "AndNotMatcher.weight") [] .none (.str (Str.ofString "whoosh.matching.binary") 846) (.ref 964) .none),
  (971, ⟨.type "code", none, .fields (List.toArray [.str (Str.ofString "score") 1318, .str (Str.ofString "AndNotMatcher.score") 1319, .str (Str.ofString "/claim/cut.py") 1320, .int 639 0, .int 1 0, .int 0 0, .int 0 0, .int 3 0, .ref 966, .bool true, .int 181 0, .ref 967, .none, .ref 968, .ref 969, .ref 970, .int 1322 0, .int 639 0, .str (Str.ofString "/claim/cut.py") 1323]), #[]⟩),
  (972, fnO (subOf pw 15 14) (Str.ofString "AndNotMatcher.score") [] .none (.str (Str.ofString "whoosh.matching.binary") 846) (.ref 971) .none),
  (981, ⟨.type "dict", none, .dict (List.toArray (enAll P [((Str.ofString "__module__"), 1199, .str (Str.ofString "whoosh.matching.binary") 846), ((Str.ofString "__firstlineno__"), 1203, .int 554 1202), ((Str.ofString "__init__"), 1213, .ref 873), ((Str.ofString "reset"), 1220, .ref 880), ((Str.ofString "_find_first"), 1227, .ref 887), ((Str.ofString "is_active"), 1234, .ref 894), ((Str.ofString "_find_next"), 1246, .ref 901), ((Str.ofString "supports_block_quality"), 1253, .ref 908), ((Str.ofString "replace"), 1264, .ref 916), ((Str.ofString "max_quality"), 1271, .ref 923), ((Str.ofString "block_quality"), 1278, .ref 930), ((Str.ofString "skip_to_quality"), 1286, .ref 937), ((Str.ofString "id"), 1293, .ref 944), ((Str.ofString "next"), 1302, .ref 951), ((Str.ofString "skip_to"), 1310, .ref 958), ((Str.ofString "weight"), 1317, .ref 965), ((Str.ofString "score"), 1324, .ref 972), ((Str.ofString "value"), 1331, .ref 979), ((Str.ofString "__static_attributes__"), 1332, .ref 980), ((Str.ofString "__doc__"), 1334, .none)])) 3, #[]⟩),
  (982, ⟨.type "type", none, .cls { name := (Str.ofString "AndNotMatcher"), bases := [.ref 654], mro := [.ref 982, .ref 654, .ref 206, .type "object"], ns := 981, qualname := (Str.ofString "AndNotMatcher"), hasDict := true, slotNames := [], subclasses := [], abstract := false, collection := none, hasDel := false }, #[(some (.ref 858)), none, (some (.str (Str.ofString "AndNotMatcher") 1192)), (some (.str (Str.ofString "AndNotMatcher") 1200)), (some (.builtin "object.__new__")), (some (.bool true))]⟩),
  (1120, ⟨.type "dict", none, .dict (List.toArray (enAll P [((Str.ofString "__module__"), 1466, .str (Str.ofString "whoosh.scoring") 1457), ((Str.ofString "__firstlineno__"), 1470, .int 722 1469), ((Str.ofString "supports_block_quality"), 1477, .ref 1097), ((Str.ofString "score"), 1485, .ref 1104), ((Str.ofString "max_quality"), 1492, .ref 1111), ((Str.ofString "block_quality"), 1500, .ref 1118), ((Str.ofString "__static_attributes__"), 1501, .ref 1119), ((Str.ofString "__dict__"), 1503, .ref 1122), ((Str.ofString "__weakref__"), 1505, .ref 1123), ((Str.ofString "__doc__"), 1506, .none)])) 4, #[]⟩),
  (1121, ⟨.type "type", none, .cls { name := (Str.ofString "BaseScorer"), bases := [.type "object"], mro := [.ref 1121, .type "object"], ns := 1120, qualname := (Str.ofString "BaseScorer"), hasDict := true, slotNames := [], subclasses := [.ref 1170], abstract := false, collection := none, hasDel := false }, #[(some (.ref 1084)), none, (some (.str (Str.ofString "BaseScorer") 1459)), (some (.str (Str.ofString "BaseScorer") 1467)), (some (.builtin "object.__new__")), (some (.bool true))]⟩),
  (1138, ⟨.type "code", none, .fields (List.toArray [.str (Str.ofString "__init__") 1521, .str (Str.ofString "WeightScorer.__init__") 1522, .str (Str.ofString "/claim/cut.py") 1523, .int 737 0, .int 2 0, .int 0 0, .int 0 0, .int 3 0, .ref 1133, .bool true, .int 181 0, .ref 1134, .none, .ref 1135, .ref 1136, .ref 1137, .int 1526 0, .int 737 0, .str (Str.ofString "/claim/cut.py") 1527]), #[]⟩),
  (1139, fnO (subOf pw 19 0) (Str.ofString "WeightScorer.__init__") [] .none (.str (Str.ofString "whoosh.scoring") 1457) (.ref 1138) .none),
  (1152, ⟨.type "code", none, .fields (List.toArray [.str (Str.ofString "score") 1536, .str (Str.ofString "WeightScorer.score") 1537, .str (Str.ofString "/claim/cut.py") 1538, .int 743 0, .int 2 0, .int 0 0, .int 0 0, .int 3 0, .ref 1147, .bool true, .int 181 0, .ref 1148, .none, .ref 1149, .ref 1150, .ref 1151, .int 1541 0, .int 743 0, .str (Str.ofString "/claim/cut.py") 1542]), #[]⟩),
  (1153, fnO (subOf pw 19 2) (Str.ofString "WeightScorer.score") [] .none (.str (Str.ofString "whoosh.scoring") 1457) (.ref 1152) .none),
  (1169, ⟨.type "dict", none, .dict (List.toArray (enAll P [((Str.ofString "__module__"), 1516, .str (Str.ofString "whoosh.scoring") 1457), ((Str.ofString "__firstlineno__"), 1520, .int 735 1519), ((Str.ofString "__init__"), 1528, .ref 1139), ((Str.ofString "supports_block_quality"), 1535, .ref 1146), ((Str.ofString "score"), 1543, .ref 1153), ((Str.ofString "max_quality"), 1550, .ref 1160), ((Str.ofString "block_quality"), 1558, .ref 1167), ((Str.ofString "__static_attributes__"), 1560, .ref 1168), ((Str.ofString "__doc__"), 1561, .none)])) 2, #[]⟩),
  (1170, ⟨.type "type", none, .cls { name := (Str.ofString "WeightScorer"), bases := [.ref 1121], mro := [.ref 1170, .ref 1121, .type "object"], ns := 1169, qualname := (Str.ofString "WeightScorer"), hasDict := true, slotNames := [], subclasses := [], abstract := false, collection := none, hasDel := false }, #[(some (.ref 1126)), none, (some (.str (Str.ofString "WeightScorer") 1509)), (some (.str (Str.ofString "WeightScorer") 1517)), (some (.builtin "object.__new__")), (some (.bool true))]⟩),
  (1178, ⟨.type "code", none, .fields (List.toArray [.str (Str.ofString "_law_text") 1566, .str (Str.ofString "_law_text") 1567, .str (Str.ofString "/claim/cut.py") 1568, .int 752 0, .int 1 0, .int 0 0, .int 0 0, .int 3 0, .ref 1173, .bool true, .int 181 0, .ref 1174, .none, .ref 1175, .ref 1176, .ref 1177, .int 1573 0, .int 752 0, .str (Str.ofString "/claim/cut.py") 1574]), #[]⟩),
  (1179, fnO (stOf pw 21) (Str.ofString "_law_text") [] .none (.str (Str.ofString "law_ah0049_01") 1564) (.ref 1178) .none),
  (1185, ⟨.type "code", none, .fields (List.toArray [.str (Str.ofString "_law_part") 1576, .str (Str.ofString "_law_part") 1577, .str (Str.ofString "/claim/cut.py") 1578, .int 761 0, .int 1 0, .int 0 0, .int 0 0, .int 3 0, .ref 1180, .bool true, .int 181 0, .ref 1181, .none, .ref 1182, .ref 1183, .ref 1184, .int 1580 0, .int 761 0, .str (Str.ofString "/claim/cut.py") 1581]), #[]⟩),
  (1186, fnO (stOf pw 22) (Str.ofString "_law_part") [] .none (.str (Str.ofString "law_ah0049_01") 1564) (.ref 1185) .none),
  (1192, ⟨.type "code", none, .fields (List.toArray [.str (Str.ofString "_law_fits") 1583, .str (Str.ofString "_law_fits") 1584, .str (Str.ofString "/claim/cut.py") 1585, .int 763 0, .int 2 0, .int 0 0, .int 0 0, .int 3 0, .ref 1187, .bool true, .int 181 0, .ref 1188, .none, .ref 1189, .ref 1190, .ref 1191, .int 1588 0, .int 763 0, .str (Str.ofString "/claim/cut.py") 1589]), #[]⟩),
  (1193, fnO (stOf pw 23) (Str.ofString "_law_fits") [] .none (.str (Str.ofString "law_ah0049_01") 1564) (.ref 1192) .none),
  (1199, ⟨.type "code", none, .fields (List.toArray [.str (Str.ofString "_law_weight") 1591, .str (Str.ofString "_law_weight") 1592, .str (Str.ofString "/claim/cut.py") 1593, .int 769 0, .int 2 0, .int 0 0, .int 0 0, .int 3 0, .ref 1194, .bool true, .int 181 0, .ref 1195, .none, .ref 1196, .ref 1197, .ref 1198, .int 1596 0, .int 769 0, .str (Str.ofString "/claim/cut.py") 1597]), #[]⟩),
  (1200, fnO (stOf pw 24) (Str.ofString "_law_weight") [] .none (.str (Str.ofString "law_ah0049_01") 1564) (.ref 1199) .none),
  (1206, ⟨.type "code", none, .fields (List.toArray [.str (Str.ofString "_law_ways") 1599, .str (Str.ofString "_law_ways") 1600, .str (Str.ofString "/claim/cut.py") 1601, .int 771 0, .int 4 0, .int 0 0, .int 0 0, .int 3 0, .ref 1201, .bool true, .int 181 0, .ref 1202, .none, .ref 1203, .ref 1204, .ref 1205, .int 1609 0, .int 771 0, .str (Str.ofString "/claim/cut.py") 1610]), #[]⟩),
  (1207, fnO (stOf pw 25) (Str.ofString "_law_ways") [] .none (.str (Str.ofString "law_ah0049_01") 1564) (.ref 1206) .none),
  (1213, ⟨.type "code", none, .fields (List.toArray [.str (Str.ofString "_law_sum") 1612, .str (Str.ofString "_law_sum") 1613, .str (Str.ofString "/claim/cut.py") 1614, .int 781 0, .int 2 0, .int 0 0, .int 0 0, .int 3 0, .ref 1208, .bool true, .int 181 0, .ref 1209, .none, .ref 1210, .ref 1211, .ref 1212, .int 1621 0, .int 781 0, .str (Str.ofString "/claim/cut.py") 1622]), #[]⟩),
  (1214, fnO (stOf pw 26) (Str.ofString "_law_sum") [] .none (.str (Str.ofString "law_ah0049_01") 1564) (.ref 1213) .none),
  (1218, ⟨.type "code", none, .fields (List.toArray [.str (Str.ofString "_law_list") 1624, .str (Str.ofString "_law_list") 1625, .str (Str.ofString "/claim/cut.py") 1626, .int 790 0, .int 2 0, .int 0 0, .int 0 0, .int 3 0, .ref 1215, .bool true, .int 181 0, .ref 1216, .none, .none, .none, .ref 1217, .int 1627 0, .int 790 0, .str (Str.ofString "/claim/cut.py") 1628]), #[]⟩),
  (1219, fnO (stOf pw 27) (Str.ofString "_law_list") [] .none (.str (Str.ofString "law_ah0049_01") 1564) (.ref 1218) .none),
  (1223, ⟨.type "code", none, .fields (List.toArray [.str (Str.ofString "_law_here") 1630, .str (Str.ofString "_law_here") 1631, .str (Str.ofString "/claim/cut.py") 1632, .int 798 0, .int 2 0, .int 0 0, .int 0 0, .int 3 0, .ref 1220, .bool true, .int 181 0, .ref 1221, .none, .none, .none, .ref 1222, .int 1633 0, .int 798 0, .str (Str.ofString "/claim/cut.py") 1634]), #[]⟩),
  (1224, fnO (stOf pw 28) (Str.ofString "_law_here") [] .none (.str (Str.ofString "law_ah0049_01") 1564) (.ref 1223) .none),
  (1230, ⟨.type "code", none, .fields (List.toArray [.str (Str.ofString "_law_tree") 1636, .str (Str.ofString "_law_tree") 1637, .str (Str.ofString "/claim/cut.py") 1638, .int 805 0, .int 3 0, .int 0 0, .int 0 0, .int 3 0, .ref 1225, .bool true, .int 181 0, .ref 1226, .none, .ref 1227, .ref 1228, .ref 1229, .int 1646 0, .int 805 0, .str (Str.ofString "/claim/cut.py") 1647]), #[]⟩),
  (1231, fnO (stOf pw 29) (Str.ofString "_law_tree") [] .none (.str (Str.ofString "law_ah0049_01") 1564) (.ref 1230) .none),
  (1235, ⟨.type "code", none, .fields (List.toArray [.str (Str.ofString "law") 1649, .str (Str.ofString "law") 1650, .str (Str.ofString "/claim/cut.py") 1651, .int 814 0, .int 1 0, .int 0 0, .int 0 0, .int 3 0, .ref 1232, .bool true, .int 181 0, .ref 1233, .none, .none, .none, .ref 1234, .int 1652 0, .int 814 0, .str (Str.ofString "/claim/cut.py") 1653]), #[]⟩),
  (1236, fnO (stOf pw 30) (Str.ofString "law") [] .none (.str (Str.ofString "law_ah0049_01") 1564) (.ref 1235) .none)]
noncomputable def kAs : List Addr := [2, 3, 205, 206, 223, 224, 265, 266, 289, 290, 293, 294, 302, 308, 309, 315, 316, 329, 330, 386, 387, 414, 415, 421, 422, 452, 453, 463, 469, 470, 476, 477, 497, 498, 513, 519, 520, 526, 527, 547, 548, 554, 555, 582, 583, 589, 590, 592, 593, 608, 609, 653, 654, 683, 684, 690, 691, 693, 694, 704, 710, 711, 717, 718, 724, 725, 731, 732, 738, 739, 745, 746, 752, 753, 762, 763, 769, 774, 780, 781, 794, 795, 796, 802, 803, 809, 810, 816, 817, 823, 824, 837, 838, 851, 852, 854, 855, 861, 866, 872, 873, 886, 887, 893, 894, 900, 901, 909, 915, 916, 943, 944, 950, 951, 957, 958, 964, 965, 971, 972, 981, 982, 1120, 1121, 1138, 1139, 1152, 1153, 1169, 1170, 1178, 1179, 1185, 1186, 1192, 1193, 1199, 1200, 1206, 1207, 1213, 1214, 1218, 1219, 1223, 1224, 1230, 1231, 1235, 1236]
theorem kAs_is (P : Params) : kAs = (KK P).map (·.1) := by kernel_rfl
noncomputable def treeOk (t : BT) (n : Nat) : List Addr → Bool
  | [] => true
  | a :: r => (match Nat.blt a n, t.get a with | true, some _ => true | _, _ => false) && treeOk t n r
noncomputable def treeGet (t : BT) (a : Addr) : Option Obj := match t.get a with | some o => alive o | none => none
theorem tree_map {t : BT} {n : Nat} {life : Life} : ∀ {as : List Addr}, treeOk t n as = true → as.map (absHeap t n life).get? = as.map (treeGet t)
  | [], _ => rfl
  | a :: r, h => by
    obtain ⟨h1, h2⟩ := Bool.and_eq_true_iff.mp h
    rw [List.map_cons, List.map_cons, tree_map h2]
    congr 1
    unfold treeGet
    cases e : Nat.blt a n with
    | false => rw [e] at h1; cases h1
    | true =>
      cases g : t.get a with
      | none => rw [e, g] at h1; cases h1
      | some o => exact abs_get (Nat.le_of_ble_eq_true e) g
theorem lkT (P : Params) : treeOk (tEnd pw P) 1237 kAs = true := by kernel_rfl
noncomputable def kA0 : List Addr := (kAs.drop 0).take 25
noncomputable def kK0 (P : Params) : Frag := ((KK P).drop 0).take 25
theorem lkS0 (P : Params) : kA0.map (treeGet (tEnd pw P)) = (kK0 P).map fun p => some p.2 := by kernel_rfl
noncomputable def kA1 : List Addr := (kAs.drop 25).take 25
noncomputable def kK1 (P : Params) : Frag := ((KK P).drop 25).take 25
theorem lkS1 (P : Params) : kA1.map (treeGet (tEnd pw P)) = (kK1 P).map fun p => some p.2 := by kernel_rfl
noncomputable def kA2 : List Addr := (kAs.drop 50).take 25
noncomputable def kK2 (P : Params) : Frag := ((KK P).drop 50).take 25
theorem lkS2 (P : Params) : kA2.map (treeGet (tEnd pw P)) = (kK2 P).map fun p => some p.2 := by kernel_rfl
noncomputable def kA3 : List Addr := (kAs.drop 75).take 25
noncomputable def kK3 (P : Params) : Frag := ((KK P).drop 75).take 25
theorem lkS3 (P : Params) : kA3.map (treeGet (tEnd pw P)) = (kK3 P).map fun p => some p.2 := by kernel_rfl
noncomputable def kA4 : List Addr := (kAs.drop 100).take 25
noncomputable def kK4 (P : Params) : Frag := ((KK P).drop 100).take 25
theorem lkS4 (P : Params) : kA4.map (treeGet (tEnd pw P)) = (kK4 P).map fun p => some p.2 := by kernel_rfl
noncomputable def kA5 : List Addr := (kAs.drop 125).take 25
noncomputable def kK5 (P : Params) : Frag := ((KK P).drop 125).take 25
theorem lkS5 (P : Params) : kA5.map (treeGet (tEnd pw P)) = (kK5 P).map fun p => some p.2 := by kernel_rfl
theorem kA_sl : kAs = kA0 ++ (kA1 ++ (kA2 ++ (kA3 ++ (kA4 ++ (kA5))))) := by kernel_rfl
theorem kK_sl (P : Params) : KK P = kK0 P ++ (kK1 P ++ (kK2 P ++ (kK3 P ++ (kK4 P ++ (kK5 P))))) := by kernel_rfl
theorem map_app2 {α β γ : Type} {f : α → γ} {g : β → γ} {a b : List α} {c d : List β} (h1 : a.map f = c.map g) (h2 : b.map f = d.map g) : (a ++ b).map f = (c ++ d).map g := by
  rw [List.map_append, List.map_append, h1, h2]
theorem lkG (P : Params) : kAs.map (treeGet (tEnd pw P)) = (KK P).map fun p => some p.2 :=
  (congrArg (List.map (treeGet (tEnd pw P))) kA_sl).trans (((map_app2 (lkS0 P) (map_app2 (lkS1 P) (map_app2 (lkS2 P) (map_app2 (lkS3 P) (map_app2 (lkS4 P) (lkS5 P))))))).trans (congrArg (List.map fun p => some p.2) (kK_sl P)).symm)
theorem lkK1 (P : Params) : kAs.map (absHeap (tEnd pw P) 1237 {}).get? = kAs.map (treeGet (tEnd pw P)) := tree_map (lkT P)
theorem lkK2 (P : Params) : kAs.map (absHeap (tEnd pw P) 1237 {}).get? = (KK P).map fun p => some p.2 := (lkK1 P).trans (lkG P)
theorem hEnd_is (P : Params) : hEnd P = absHeap (tEnd pw P) 1237 {} := by kernel_rfl
theorem lkK (w : World) : kAs.map (hEnd w.params).get? = (KK w.params).map fun p => some p.2 :=
  (congrArg (fun h => kAs.map (Heap.get? h)) (hEnd_is w.params)).trans (lkK2 w.params)
noncomputable abbrev hk0 : Hook := kHook KK kAs kAs_is
theorem pr3 {α β γ : Type} {a a' : α} {b b' : β} {c c' : γ} (h1 : a = a') (h2 : b = b') (h3 : c = c') : (a, b, c) = (a', b', c') := by rw [h1, h2, h3]
theorem pr9 {α1 α2 α3 α4 α5 α6 α7 α8 α9 : Type} {a1 b1 : α1} {a2 b2 : α2} {a3 b3 : α3} {a4 b4 : α4} {a5 b5 : α5} {a6 b6 : α6} {a7 b7 : α7} {a8 b8 : α8} {a9 b9 : α9} (h1 : a1 = b1) (h2 : a2 = b2) (h3 : a3 = b3) (h4 : a4 = b4) (h5 : a5 = b5) (h6 : a6 = b6) (h7 : a7 = b7) (h8 : a8 = b8) (h9 : a9 = b9) :
    (a1, a2, a3, a4, a5, a6, a7, a8, a9) = (b1, b2, b3, b4, b5, b6, b7, b8, b9) := by subst h1 h2 h3 h4 h5 h6 h7 h8 h9; rfl
theorem lkO (w : World) (os : OsState) : openSeen qv loose0 (importedModules pw.main.body) Xt0 true (sE w os) = openGood qv loose0 :=
  Eq.mp (show ((seen ((recsOf qv).map (·.name)) (ownsOf qv) [] { sEnd w os with gens := #[] }, (sE w os).heap.bltView, ((sE w os).heap.keysOk (looseW qv loose0) ((recsOf qv).map (·.name)) ((litsOf qv).map (·.1)) ((clssOf qv (looseW qv loose0)).map (·.name)) && (sE w os).heap.accountedOkI (importedModules pw.main.body) && (sE w os).heap.isNs mainGlobals && (sE w os).heap.isNs builtinsNs && tablesOk qv (sE w os).heap && Xt0 (sE w os) && (if true then (sE w os).gens.size == 0 else !leftWithCleanup (sE w os).gens)), tabsOk qv (sE w os), pinSeenD qv (drecsOf qv) (sE w os), plainSeenE qv (looseW qv loose0) (sE w os), plainSeenD qv loose0 (sE w os), wideSeen qv (sE w os), clsSeenW qv loose0 (sE w os))
    = (expectedOf qv, bltViewBooted, true, true, pinGoodD (drecsOf qv), plainGoodE qv (looseW qv loose0), plainGoodD qv loose0, wideGood qv, clsGoodW qv loose0))
    = (openSeen qv loose0 (importedModules pw.main.body) Xt0 true (sE w os) = openGood qv loose0) from by kernel_rfl)
    (pr9 (lk1 w os) (lk2 w os) (lk3 w os) (lk4 w os) (lk5 w os) (lk6 w os) (lk7 w os) (lk8 w os) (lk9 w os))
noncomputable def LooksAt (f : World → OsState → Shared) : Prop := ∀ w : World, (fun os => ((staticsOk (importedModules pw.main.body) (boot_heap w.params) (f w os).heap && namesBound pw (f w os).heap && gensDone (f w os) && laidKept (boot_heap w.params) (f w os).heap),
    openSeen qv loose0 (importedModules pw.main.body) Xt0 true (f w os), hk0.obs (f w os))) = fun _ => (true, openGood qv loose0, hk0.val w)
theorem looks1 : LooksAt sE := fun w => funext fun os => pr3 (lk0 w os) (lkO w os) (Eq.mp (show (kAs.map (hEnd w.params).get? = (KK w.params).map fun p => some p.2) = (hk0.obs (sE w os) = hk0.val w) from by kernel_rfl) (lkK w))
theorem sE_is : sE = fun w os => ⟨hEnd w.params, ⟨[]⟩, {}, 1655, os⟩ := rfl
theorem looks2 : LooksAt fun w os => ⟨hEnd w.params, ⟨[]⟩, {}, 1655, os⟩ := sE_is ▸ looks1
theorem run2 (w : World) (os : OsState) : topRun treeTable pw w 11 (some (.ref 6)) 7940 ⟨boot_heap w.params, ⟨[]⟩, boot_drawn, boot_toks, os⟩ (topStub pw) = some ⟨hEnd w.params, ⟨[]⟩, {}, 1655, os⟩ :=
  Eq.mp (show (topRun treeTable pw w 11 ann0 (12 + (1 + (431 + (852 + (581 + (898 + (802 + (789 + (531 + (625 + (755 + (657 + (890 + (114 + 2)))))))))))))) ⟨boot_heap w.params, ⟨[]⟩, boot_drawn, boot_toks, os⟩ (topStub pw) = some (sEnd w os)) = (topRun treeTable pw w 11 (some (.ref 6)) 7940 ⟨boot_heap w.params, ⟨[]⟩, boot_drawn, boot_toks, os⟩ (topStub pw) = some ⟨hEnd w.params, ⟨[]⟩, {}, 1655, os⟩) from by kernel_rfl) (run w os)
theorem left0 : LeftO pw qv loose0 Xt0 hk0.obs hk0.val 16000 true :=
  @LeftO.of_pieces pw qv loose0 Xt0 hk0.α hk0.obs hk0.val 16000 true boot_heap hEnd ⟨[]⟩ ⟨[]⟩ boot_drawn {} boot_toks 1655 11 (some (.ref 6)) 7940
    (boot_open op1 (by decide) op2) sz run2 (by decide) looks2
noncomputable abbrev lawS : Stmt := stOf pw 30
noncomputable def fPos : Stmt → Pos
  | .FunctionDef _ _ _ _ _ _ _ _ _ p => p
  | _ => ⟨0, 0, 0, 0⟩
noncomputable def d0 : DefRec := ⟨"law", fArgs lawS, fBody lawS, fScope lawS, fPos lawS⟩
theorem hdef0 : defOf qv rr.name = some (d0, []) := by kernel_rfl
theorem hp0 : rr.prog.theDef rr.name = some (d0.params, d0.body, d0.scope) := by kernel_rfl
theorem hk00 : kwWritten? d0.params.kwonlyargs d0.params.kw_defaults = some [] := by kernel_rfl
theorem rprog : rr.prog = pw := by kernel_rfl
noncomputable abbrev Walk0 : Prop := WalkO qv loose0 (XL qv []) hk0.says rr.toRowW d0 [] (fun f vs => PySem.call f vs)
theorem left1 : LeftO rr.prog qv loose0 Xt0 hk0.obs hk0.val 16000 := by rw [rprog]; exact left0
structure IsRw (q : OpenLaw) : Prop where
  e : rwl = q
theorem IsRw.of {q : OpenLaw} (h : Is { PySem.Challenge.rw_ah0049_01 with prog := tp } q) : IsRw q :=
  ⟨(show rwl = { PySem.Challenge.rw_ah0049_01 with prog := tp } from by kernel_rfl).trans h.e⟩
noncomputable def rwS : { q : OpenLaw // IsRw q } := ⟨_, IsRw.of (by dsimp only [PySem.Challenge.rw_ah0049_01, a12, a90, a136]; exact ⟨rfl⟩)⟩
noncomputable def rwT : OpenLaw := rwS.1
theorem rwe : rwl = rwT := rwS.2.e
noncomputable def rrT : OpenRow := rwT.row
theorem rre : rr = rrT := congrArg OpenLaw.row rwe
noncomputable def qvT : Program := { tp with main := { tp.main with body := [stOf tp 30] } }
theorem qve : qv = qvT := (congrArg (fun p : Program => ({ p with main := { p.main with body := [stOf p 30] } } : Program)) tpe)
theorem chainsT : (chainsOk qvT && opensWell rrT.prog && (frees rrT.toRowW && rrT.within.isEmpty)) = true := by k_qdec
theorem chains0 : (chainsOk qv && opensWell rr.prog && (frees rr.toRowW && rr.within.isEmpty)) = true := by
  rw [qve, rre]
  exact chainsT
theorem bare0 : rr.prog.bare := ⟨rfl, rfl, rfl, rfl, rfl, by decide +kernel⟩
theorem row0 (said : rr.wellSaid = true) (h : Walk0) (hw : rr.toRowW.promised) : rr.Holds :=
  holds_open (r := rr) (q := qv) (loose := loose0) (Xt := Xt0) (XP := XL qv []) (Yf := hk0.obs) (Ya := hk0.val) (YP := hk0.says) (d := d0) (kwd := []) (N := 16000) left1 hk0.of hk0.keeps
    (fun s e => xl_of s (Bool.and_eq_true_iff.mp e).1) XL.keeps hdef0 hp0 hk00 (fun s e => recFacts_of (Bool.and_eq_true_iff.mp e).2) (by rfl) said chains0 bare0 hw h
theorem wit0 : rr.toRowW.promised := ⟨[WData.list []], by decide +kernel, by decide +kernel⟩
theorem hdT (k : rwT.row.wellSaid = true → rwT.row.Holds) : rwT.Holds := by
  w_on
  o_law
  exact k (by assumption)
theorem hd (h : Walk0) : PySem.Challenge.rw_ah0049_01.Holds := by
  show rwl.Holds
  rw [rwe]
  refine hdT fun said => ?_
  rw [← rwe] at said ⊢
  exact row0 said h wit0
end Mine.Hd
namespace Mine
open PySem PySem.W PySem.Calls PyProof.Rows
inductive Node where
  | inst (C : Addr) (fs : List (PySem.Str × Value))
  | list (vs : List Value)
  | tup (vs : List Value)
  | cell (v : Option Value)
  | obj (o : Obj)
noncomputable abbrev AH := Addr → Option Node

inductive FA : List DictEntry → List (PySem.Str × Value) → Prop
  | nil : FA [] []
  | cons {es fs} (k : Int) (x : PySem.Str) (t : Tok) (v : Value) : FA es fs → FA (⟨k, .str x t, v⟩ :: es) ((x, v) :: fs)

noncomputable def NodeAt (h : Heap) (x : Addr) : Node → Prop
  | .inst C fs => ∃ d es n, x = d + 1 ∧ h.get? x = some (instObj C d) ∧ h.get? d = some (dictOf es n) ∧ FA es fs
  | .list vs => ∃ n, h.get? x = some { cls := .type "list", data := .seq vs.toArray n }
  | .tup vs => ∃ n, h.get? x = some { cls := .type "tuple", data := .seq vs.toArray n }
  | .cell v => ∃ o, h.get? x = some o ∧ o.data = .cell v
  | .obj o => h.get? x = some o

noncomputable def owns : Node → Addr → Addr → Prop
  | .inst _ _, x, a => a = x ∨ a + 1 = x
  | _, x, a => a = x

theorem owns_self (n : Node) (x : Addr) : owns n x x := by cases n <;> first | exact rfl | exact .inl rfl

theorem NodeAt.keep {h h' : Heap} {x : Addr} {n : Node} (N : NodeAt h x n) (k : ∀ a o, owns n x a → h.get? a = some o → h'.get? a = some o) : NodeAt h' x n := by
  cases n with
  | inst C fs =>
    obtain ⟨d, es, n, rfl, h1, h2, h3⟩ := N
    exact ⟨d, es, n, rfl, k _ _ (.inl rfl) h1, k _ _ (.inr rfl) h2, h3⟩
  | list vs => obtain ⟨n, h1⟩ := N; exact ⟨n, k _ _ rfl h1⟩
  | tup vs => obtain ⟨n, h1⟩ := N; exact ⟨n, k _ _ rfl h1⟩
  | cell v => obtain ⟨o, h1, h2⟩ := N; exact ⟨o, k _ _ rfl h1, h2⟩
  | obj o => exact k _ _ rfl N
theorem NodeAt.has {h : Heap} {x : Addr} {n : Node} (N : NodeAt h x n) (a : Addr) (w : owns n x a) : ∃ o, h.get? a = some o := by
  cases n with
  | inst C fs =>
    obtain ⟨d, es, n, rfl, h1, h2, h3⟩ := N
    rcases w with rfl | w
    · exact ⟨_, h1⟩
    · obtain rfl : a = d := Nat.succ.inj w
      exact ⟨_, h2⟩
  | list vs => obtain ⟨n, h1⟩ := N; cases w; exact ⟨_, h1⟩
  | tup vs => obtain ⟨n, h1⟩ := N; cases w; exact ⟨_, h1⟩
  | cell v => obtain ⟨o, h1, h2⟩ := N; cases w; exact ⟨_, h1⟩
  | obj o => cases w; exact ⟨_, N⟩

structure Cx where
  w : World
  mg : PySem.Str → Option Value
  mb : PySem.Str → Option Value
  os : OsState
  A : Around
  h₀ : Heap
  L : Addr

noncomputable abbrev Cx.M (c : Cx) : Model := model Hd.pw c.w
noncomputable abbrev Lc := PySem.Str → Option Value

structure ST (c : Cx) (m : Lc) (σ : AH) (s : Shared) : Prop where
  k : (Hd.KK c.w.params).In c.h₀
  t : TopRead Hd.qv (looseW Hd.qv Hd.loose0) c.mg c.mb c.h₀
  f : Fr c.h₀ c.L s.heap m
  nodes : ∀ x n, σ x = some n → NodeAt s.heap x n
  out : ∀ x n a, σ x = some n → owns n x a → a ≠ c.L ∧ c.h₀.get? a = none
  sep : ∀ x y n n' a, σ x = some n → σ y = some n' → owns n x a → owns n' y a → x = y
  gens : s.gens = #[]
  os : s.os = c.os

structure XV {α : Type} (c : Cx) (m : Lc) (σ : AH) (t : Sem α) (Q : α → Lc → AH → Prop) : Prop where
  run : ∀ s, ST c m σ s → wpAny c.M c.A t (fun a s' => ∃ m' σ', ST c m' σ' s' ∧ Q a m' σ') (fun _ _ => False) s

noncomputable def upd (m : Lc) (x : PySem.Str) (v : Value) : Lc := fun y => if y = x then some v else m y
noncomputable def put (σ : AH) (x : Addr) (n : Node) : AH := fun y => if y = x then some n else σ y

section
variable {α β : Type} {c : Cx} {m : Lc} {σ : AH}

theorem x_mono {t : Sem α} {Q Q' : α → Lc → AH → Prop} (h : XV c m σ t Q) (k : ∀ a m' σ', Q a m' σ' → Q' a m' σ') : XV c m σ t Q' :=
  .mk fun s S => wpAny_mono (h.run s S) (fun a _ ⟨m', σ', S', q⟩ => ⟨m', σ', S', k a m' σ' q⟩) fun _ _ e => e
theorem x_pure {a : α} {Q : α → Lc → AH → Prop} (h : Q a m σ) : XV c m σ (pure a) Q :=
  .mk fun _ S => wpAny_pure ⟨m, σ, S, h⟩
theorem x_bind {t : Sem α} {k : α → Sem β} {Q : β → Lc → AH → Prop} (h : XV c m σ t fun a m' σ' => XV c m' σ' (k a) Q) : XV c m σ (t >>= k) Q :=
  .mk fun s S => wpAny_bind (wpAny_mono (h.run s S) (fun _ s' ⟨_, _, S', q⟩ => q.run s' S') fun _ _ e => e)
theorem x_holding {vs : List Value} {t : Sem α} {Q : α → Lc → AH → Prop} (h : XV c m σ t Q) : XV c m σ (holding vs t) Q :=
  .mk fun s S => wpAny_holding (h.run s S)
theorem x_standAt {p : Pos} {Q : Unit → Lc → AH → Prop} (h : Q () m σ) : XV c m σ (standAt p) Q := .mk fun _ S => wpAny_standAt ⟨m, σ, S, h⟩

/-- a state that differs in its tokens alone -/
theorem ST.tok {s : Shared} (S : ST c m σ s) (t : Nat) : ST c m σ { s with toks := t } := ⟨S.k, S.t, S.f, S.nodes, S.out, S.sep, S.gens, S.os⟩

/-- the frame's locals turn, all else stays -/
theorem ST.setL {s : Shared} {m' : Lc} {h' : Heap} {t : Nat} (S : ST c m σ s) (hn : h'.Ns c.L m') (hs : Heap.SameBut c.L s.heap h') :
    ST c m' σ { s with heap := h', toks := t } where
  k := S.k
  t := S.t
  f := S.f.set hn hs
  nodes y n e := (S.nodes y n e).keep fun a o w q => (hs.2 a (S.out _ _ _ e w).1).trans q
  out := S.out
  sep := S.sep
  gens := S.gens
  os := S.os

theorem ST.fresh {s : Shared} (S : ST c m σ s) {x a : Addr} {n : Node} (e : σ x = some n) (w : owns n x a) : a < s.heap.objs.size := by
  obtain ⟨o, h⟩ := (S.nodes x n e).has a w
  exact Heap.lt_size h
theorem ST.ltL {s : Shared} (S : ST c m σ s) : c.L < s.heap.objs.size := by
  obtain ⟨o, _, _, h, _⟩ := S.f.ns
  exact Heap.lt_size h
theorem ST.lt0 {s : Shared} (S : ST c m σ s) {a : Addr} {o : Obj} (e : c.h₀.get? a = some o) : a < s.heap.objs.size := Heap.lt_size (S.f.keep a o e)

/-- a new object that no node names -/
theorem ST.push {s : Shared} (S : ST c m σ s) (o : Obj) (t : Nat) : ST c m σ { s with heap := s.heap.push o, toks := t } where
  k := S.k
  t := S.t
  f := S.f.push o
  nodes y n e := (S.nodes y n e).keep fun _ _ _ q => Heap.get?_push_of_some o q
  out := S.out
  sep := S.sep
  gens := S.gens
  os := S.os
/-- any keeping heap -/
theorem ST.keeps {s : Shared} {h' : Heap} {t : Nat} (S : ST c m σ s) (k : ∀ a o, s.heap.get? a = some o → h'.get? a = some o) : ST c m σ { s with heap := h', toks := t } where
  k := S.k
  t := S.t
  f := by
    obtain ⟨o, es, ep, ho, r⟩ := S.f.ns
    exact ⟨⟨o, es, ep, k _ _ ho, r⟩, fun a o e => k _ _ (S.f.keep a o e), S.f.above⟩
  nodes y n e := (S.nodes y n e).keep fun a o _ q => k a o q
  out := S.out
  sep := S.sep
  gens := S.gens
  os := S.os
/-- a node at addresses that stood nowhere -/
theorem ST.add {s : Shared} (S : ST c m σ s) {x : Addr} {n : Node} (N : NodeAt s.heap x n) (hf : ∀ a, owns n x a → a ≠ c.L ∧ c.h₀.get? a = none ∧ ∀ y n', σ y = some n' → ¬ owns n' y a) : ST c m (put σ x n) s where
  k := S.k
  t := S.t
  f := S.f
  nodes y n' e := by
    unfold put at e
    split at e
    · rename_i q; subst q; cases e; exact N
    · exact S.nodes y n' e
  out y n' a e w := by
    unfold put at e
    split at e
    · rename_i q; subst q; cases e; exact ⟨(hf a w).1, (hf a w).2.1⟩
    · exact S.out y n' a e w
  sep y z n' n'' a e e' w w' := by
    unfold put at e e'
    split at e <;> split at e'
    · rename_i q q'; rw [q, q']
    · rename_i q q'; subst q; cases e; exact ((hf a w).2.2 z n'' e' w').elim
    · rename_i q q'; subst q'; cases e'; exact ((hf a w').2.2 y n' e w).elim
    · exact S.sep y z n' n'' a e e' w w'
  gens := S.gens
  os := S.os
/-- a node turned -/
theorem ST.turn {s : Shared} (S : ST c m σ s) {x : Addr} {n n' : Node} {h' : Heap} {t : Nat} (e : σ x = some n) (N : NodeAt h' x n') (ho : ∀ a, owns n' x a → owns n x a)
    (hk : ∀ a o, ¬ owns n x a → s.heap.get? a = some o → h'.get? a = some o) : ST c m (put σ x n') { s with heap := h', toks := t } where
  k := S.k
  t := S.t
  f := by
    obtain ⟨o, es, ep, h, r⟩ := S.f.ns
    refine ⟨⟨o, es, ep, hk _ _ (fun w => (S.out _ _ _ e w).1 rfl) h, r⟩, fun a o q => hk _ _ (fun w => ?_) (S.f.keep a o q), S.f.above⟩
    rw [(S.out _ _ _ e w).2] at q; cases q
  nodes y n'' e' := by
    unfold put at e'
    split at e'
    · rename_i q; subst q; cases e'; exact N
    · rename_i q
      exact (S.nodes y n'' e').keep fun a o w z => hk a o (fun w' => q (S.sep _ _ _ _ _ e' e w w')) z
  out y n'' a e' w := by
    unfold put at e'
    split at e'
    · rename_i q; subst q; cases e'; exact S.out _ _ _ e (ho a w)
    · exact S.out y n'' a e' w
  sep y z n1 n2 a e1 e2 w1 w2 := by
    unfold put at e1 e2
    split at e1 <;> split at e2
    · rename_i q q'; rw [q, q']
    · rename_i q q'; subst q; cases e1; exact S.sep _ _ _ _ _ e e2 (ho a w1) w2
    · rename_i q q'; subst q'; cases e2; exact S.sep _ _ _ _ _ e1 e w1 (ho a w2)
    · exact S.sep y z n1 n2 a e1 e2 w1 w2
  gens := S.gens
  os := S.os

variable {cn : PySem.Str} {cs : Scope} {a : Addr} {ccd : Value} {cl : List (PySem.Str × Addr)}

theorem x_name {x : PySem.Str} {pos : Pos} {v : Value} {Q : Value → Lc → AH → Prop} (hv : m x = some v) (h : Q v m σ)
    (hl : (envX cn cs c.L a ccd cl).kindOf x = some .local := by rfl) (hk : cs.kind = .function := by rfl) (hd : (x == ("__debug__" : PySem.Str)) = false := by rfl) :
    XV c m σ (eval (.Name x pos) (envX cn cs c.L a ccd cl)) Q :=
  .mk fun _ S => nameX_L S.f hv ⟨m, σ, S, h⟩ hk hl hd
theorem x_global {x : PySem.Str} {pos : Pos} {v : Value} {Q : Value → Lc → AH → Prop} (e : ∀ P, nsIn (Hd.KK P) mainGlobals x = some (some v)) (h : Q v m σ)
    (hl : (envX cn cs c.L a ccd cl).kindOf x = some .globalImplicit := by rfl) (hk : cs.kind = .function := by rfl) (hd : (x == ("__debug__" : PySem.Str)) = false := by rfl) :
    XV c m σ (eval (.Name x pos) (envX cn cs c.L a ccd cl)) Q :=
  .mk fun _ S => nameX_K S.f S.k S.t (e _) ⟨m, σ, S, h⟩ hk hl hd
theorem x_builtin {x : PySem.Str} {pos : Pos} {v : Value} {Q : Value → Lc → AH → Prop} (e : ∀ P, nsIn (Hd.KK P) mainGlobals x = some none) (hv : bootBuiltins x = some v) (hn : x ≠ "__name__") (h : Q v m σ)
    (hl : (envX cn cs c.L a ccd cl).kindOf x = some .globalImplicit := by rfl) (hk : cs.kind = .function := by rfl) (hd : (x == ("__debug__" : PySem.Str)) = false := by rfl) :
    XV c m σ (eval (.Name x pos) (envX cn cs c.L a ccd cl)) Q :=
  .mk fun _ S => nameX_B S.f S.k S.t (e _) hv hn ⟨m, σ, S, h⟩ hk hl hd
theorem x_store {x : PySem.Str} {v : Value} {Q : Unit → Lc → AH → Prop} (h : Q () (upd m x v) σ)
    (hl : (envX cn cs c.L a ccd cl).kindOf x = some .local := by rfl) (hk : cs.kind = .function := by rfl) :
    XV c m σ (storeName (envX cn cs c.L a ccd cl) x v) Q :=
  .mk fun _ S => wpAny_storeName_local hl S.f.ns (fun _ hn hs => ⟨_, σ, S.setL hn hs, h⟩) (by show (cs.kind == .class || (cs.kind == .module && c.L != mainGlobals)) = false; rw [hk]; rfl)
end
section
variable {α β : Type} {c : Cx} {m : Lc} {σ : AH} {env : Env}

/-- a rule of the library, one premise -/
theorem x_lift {t : Sem α} {t' : Sem β} {Q : β → Lc → AH → Prop} {Q' : α → Lc → AH → Prop}
    (h : XV c m σ t Q')
    (r : ∀ s, wpAny c.M c.A t (fun a s' => ∃ m' σ', ST c m' σ' s' ∧ Q' a m' σ') (fun _ _ => False) s → wpAny c.M c.A t' (fun a s' => ∃ m' σ', ST c m' σ' s' ∧ Q a m' σ') (fun _ _ => False) s) : XV c m σ t' Q :=
  .mk fun s S => r s (h.run s S)

theorem x_execs_nil {Q : Flow → Lc → AH → Prop} (h : Q .next m σ) : XV c m σ (execs [] env) Q := .mk fun _ S => wpAny_execs_nil ⟨m, σ, S, h⟩
theorem x_execs {l : List Stmt} {st : Stmt} {rest : List Stmt} {Q : Flow → Lc → AH → Prop} (e : l = st :: rest)
    (h : XV c m σ (exec st env) (fun f m' σ' => match f with | .next => XV c m' σ' (execs rest env) Q | f => Q f m' σ')) : XV c m σ (execs l env) Q := by
  subst e
  exact .mk fun s S => wpAny_execs_cons (wpAny_mono (h.run s S) (fun f s' ⟨m', σ', S', q⟩ => by cases f <;> first | exact q.run s' S' | exact ⟨m', σ', S', q⟩) fun _ _ e => e)
theorem x_if {test : Expr} {body orelse : List Stmt} {pos : Pos} {Q : Flow → Lc → AH → Prop}
    (h : XV c m σ (isTrue test env (eval test env)) (fun b m' σ' => if b then XV c m' σ' (execs body env) Q else XV c m' σ' (execs orelse env) Q)) : XV c m σ (exec (.If test body orelse pos) env) Q :=
  .mk fun s S => wpAny_If (wpAny_mono (h.run s S) (fun b s' ⟨m', σ', S', q⟩ => by cases b <;> exact q.run s' S') fun _ _ e => e)
theorem x_ret {e : Expr} {pos : Pos} {Q : Flow → Lc → AH → Prop} (h : XV c m σ (eval e env) fun v => Q (.ret v)) : XV c m σ (exec (.Return (some e) pos) env) Q :=
  .mk fun s S => wpAny_Return_some (h.run s S)
theorem x_ret_none {pos : Pos} {Q : Flow → Lc → AH → Prop} (h : Q (.ret .none) m σ) : XV c m σ (exec (.Return none pos) env) Q :=
  .mk fun _ S => wpAny_Return_none ⟨m, σ, S, h⟩
theorem x_brk {pos : Pos} {Q : Flow → Lc → AH → Prop} (h : Q .brk m σ) : XV c m σ (exec (.Break pos) env) Q :=
  .mk fun _ S => wpAny_Break ⟨m, σ, S, h⟩
theorem x_assert {test : Expr} {msg : Option Expr} {pos : Pos} {Q : Flow → Lc → AH → Prop} (h : XV c m σ (isTrue test env (eval test env)) fun b m' σ' => b = true ∧ Q .next m' σ') : XV c m σ (exec (.Assert test msg pos) env) Q :=
  .mk fun s S => wpAny_Assert_holds (wpAny_mono (h.run s S) (fun _ _ ⟨m', σ', S', e, q⟩ => ⟨e, m', σ', S', q⟩) fun _ _ e => e)
theorem x_assign {x : PySem.Str} {p pos : Pos} {value : Expr} {Q : Flow → Lc → AH → Prop} (h : XV c m σ (eval value env) fun v m' σ' => XV c m' σ' (storeName env x v) fun _ => Q .next)
    (hs : swapsWith value (some (.Name x p)) pos.line env = pure false := by rfl) : XV c m σ (exec (.Assign [.Name x p] value pos) env) Q :=
  .mk fun s S => wpAny_Assign_Name (wpAny_mono (h.run s S) (fun _ s' ⟨_, _, S', q⟩ => q.run s' S') fun _ _ e => e) hs
theorem x_assign_attr {o value : Expr} {attr : PySem.Str} {p pos : Pos} {Q : Flow → Lc → AH → Prop}
    (h : XV c m σ (eval value env) fun v m1 σ1 => XV c m1 σ1 (eval o env) fun ov m2 σ2 => XV c m2 σ2 (setAttr ov attr v) fun _ => Q .next)
    (hs : swapsWith value (some (.Attribute o attr p)) pos.line env = pure false := by rfl) : XV c m σ (exec (.Assign [.Attribute o attr p] value pos) env) Q :=
  .mk fun s S => plainObj_wpAny_Assign_Attribute (wpAny_mono (h.run s S) (fun _ s1 ⟨_, _, S1, q1⟩ => wpAny_mono (q1.run s1 S1) (fun _ s2 ⟨_, _, S2, q2⟩ => q2.run s2 S2) fun _ _ e => e) fun _ _ e => e) hs
theorem x_aug_attr {o value : Expr} {attr : PySem.Str} {tp pos : Pos} {op : Operator} {Q : Flow → Lc → AH → Prop}
    (h : XV c m σ (eval o env) fun ov m1 σ1 => XV c m1 σ1 (getAttr ov attr true) fun old m2 σ2 => XV c m2 σ2 (eval value env) fun v m3 σ3 => XV c m3 σ3 (inplaceOp op old v) fun new m4 σ4 => XV c m4 σ4 (setAttr ov attr new) fun _ => Q .next) :
    XV c m σ (exec (.AugAssign (.Attribute o attr tp) op value pos) env) Q :=
  .mk fun s S => wpAny_AugAssign_AttributeAny (wpAny_mono (h.run s S) (fun _ s1 ⟨_, _, S1, q1⟩ => wpAny_mono (q1.run s1 S1) (fun _ s2 ⟨_, _, S2, q2⟩ => wpAny_mono (q2.run s2 S2) (fun _ s3 ⟨_, _, S3, q3⟩ =>
    wpAny_mono (q3.run s3 S3) (fun _ s4 ⟨_, _, S4, q4⟩ => q4.run s4 S4) fun _ _ e => e) fun _ _ e => e) fun _ _ e => e) fun _ _ e => e)
theorem x_expr {e : Expr} {pos : Pos} {Q : Flow → Lc → AH → Prop} (h : XV c m σ (eval e env) fun v m' σ' => (∀ a, v ≠ .ref a) ∧ Q .next m' σ')
    (hi : interactive env = false := by rfl) (hs : swapsWith e none pos.line env = pure false := by rfl) : XV c m σ (exec (.Expr e pos) env) Q :=
  .mk fun s S => wpAny_Expr (wpAny_mono (h.run s S) (fun v _ ⟨m', σ', S', hn, q⟩ => by cases v <;> first | exact ⟨m', σ', S', q⟩ | exact (hn _ rfl).elim) fun _ _ e => e) hi hs

-- tests
theorem x_true_cmp {l r : Expr} {op : CmpOp} {pos : Pos} {whole : Sem Value} {Q : Bool → Lc → AH → Prop}
    (h : XV c m σ (eval l env) fun a m1 σ1 => XV c m1 σ1 (eval r env) fun b m2 σ2 => XV c m2 σ2 (compareOp op a b) fun v m3 σ3 => XV c m3 σ3 (truthy v) Q)
    (hm : behindInMarks op r = false := by with_unfolding_all rfl) : XV c m σ (isTrue (.Compare l [op] [r] pos) env whole) Q :=
  .mk fun s S => wpAny_isTrue_Compare1 (wpAny_mono (h.run s S) (fun _ s1 ⟨_, _, S1, q1⟩ => wpAny_mono (q1.run s1 S1) (fun _ s2 ⟨_, _, S2, q2⟩ => wpAny_mono (q2.run s2 S2) (fun _ s3 ⟨_, _, S3, q3⟩ => q3.run s3 S3) fun _ _ e => e) fun _ _ e => e) fun _ _ e => e) hm
theorem x_cmp {l r : Expr} {op : CmpOp} {pos : Pos} {Q : Value → Lc → AH → Prop}
    (h : XV c m σ (eval l env) fun a m1 σ1 => XV c m1 σ1 (eval r env) fun b m2 σ2 => XV c m2 σ2 (compareOp op a b) Q)
    (hm : behindInMarks op r = false := by with_unfolding_all rfl) : XV c m σ (eval (.Compare l [op] [r] pos) env) Q :=
  .mk fun s S => wpAny_Compare1 (wpAny_mono (h.run s S) (fun _ s1 ⟨_, _, S1, q1⟩ => wpAny_mono (q1.run s1 S1) (fun _ s2 ⟨_, _, S2, q2⟩ => q2.run s2 S2) fun _ _ e => e) fun _ _ e => e) hm
theorem x_true_not {x : Expr} {pos : Pos} {whole : Sem Value} {Q : Bool → Lc → AH → Prop} (h : XV c m σ (isTrue x env (eval x env)) fun b => Q (!b)) : XV c m σ (isTrue (.UnaryOp .Not x pos) env whole) Q :=
  .mk fun s S => wpAny_isTrue_Not (h.run s S)
theorem x_true_bool {op : BoolOp} {vs : List Expr} {pos : Pos} {whole : Sem Value} {Q : Bool → Lc → AH → Prop} (h : XV c m σ (allTrue op vs env) Q) : XV c m σ (isTrue (.BoolOp op vs pos) env whole) Q :=
  .mk fun s S => wpAny_isTrue_BoolOp (h.run s S)
theorem x_and_nil {Q : Bool → Lc → AH → Prop} (h : Q true m σ) : XV c m σ (allTrue .And [] env) Q := .mk fun _ S => wpAny_allTrue_And_nil ⟨m, σ, S, h⟩
theorem x_or_nil {Q : Bool → Lc → AH → Prop} (h : Q false m σ) : XV c m σ (allTrue .Or [] env) Q := .mk fun _ S => wpAny_allTrue_Or_nil ⟨m, σ, S, h⟩
theorem x_and_cons {x : Expr} {rest : List Expr} {Q : Bool → Lc → AH → Prop} (h : XV c m σ (isTrue x env (eval x env)) fun b m' σ' => if b then XV c m' σ' (allTrue .And rest env) Q else Q false m' σ') : XV c m σ (allTrue .And (x :: rest) env) Q :=
  .mk fun s S => by
    show wpAny _ _ (do match BoolOp.And, ← isTrue x env (eval x env) with | .And, false => pure false | .Or, true => pure true | _, _ => allTrue .And rest env) _ _ s
    refine wpAny_bind (wpAny_mono (h.run s S) (fun b s' ⟨m', σ', S', q⟩ => ?_) fun _ _ e => e)
    cases b with
    | false => exact wpAny_pure ⟨m', σ', S', q⟩
    | true => exact q.run s' S'
theorem x_or_cons {x : Expr} {rest : List Expr} {Q : Bool → Lc → AH → Prop} (h : XV c m σ (isTrue x env (eval x env)) fun b m' σ' => if b then Q true m' σ' else XV c m' σ' (allTrue .Or rest env) Q) : XV c m σ (allTrue .Or (x :: rest) env) Q :=
  .mk fun s S => by
    show wpAny _ _ (do match BoolOp.Or, ← isTrue x env (eval x env) with | .And, false => pure false | .Or, true => pure true | _, _ => allTrue .Or rest env) _ _ s
    refine wpAny_bind (wpAny_mono (h.run s S) (fun b s' ⟨m', σ', S', q⟩ => ?_) fun _ _ e => e)
    cases b with
    | false => exact q.run s' S'
    | true => exact wpAny_pure ⟨m', σ', S', q⟩
/-- any other test: its value, then its truth -/
theorem x_true {e : Expr} {whole : Sem Value} {Q : Bool → Lc → AH → Prop} (h : XV c m σ whole fun v m' σ' => XV c m' σ' (truthy v) Q)
    (he : isTrue e env whole = (do let v ← whole; standAt e.pos; holding [v] (truthy v)) := by rfl) : XV c m σ (isTrue e env whole) Q := by
  rw [he]
  exact x_bind (x_mono h fun v m' σ' q => x_bind (x_standAt (x_holding q)))
-- values of and | or
theorem x_boolop_one {op : BoolOp} {pos : Pos} {x : Sem Value} {Q : Value → Lc → AH → Prop} (h : XV c m σ x Q) : XV c m σ (boolOp pos op [x]) Q := h
theorem x_boolop_or {pos : Pos} {x y : Sem Value} {rest : List (Sem Value)} {Q : Value → Lc → AH → Prop}
    (h : XV c m σ x fun v m1 σ1 => XV c m1 σ1 (truthy v) fun t m2 σ2 => if t then Q v m2 σ2 else XV c m2 σ2 (boolOp pos .Or (y :: rest)) Q) : XV c m σ (boolOp pos .Or (x :: y :: rest)) Q := by
  show XV c m σ (do
    let v ← x
    standAt pos
    let t ← holding [v] (truthy v)
    match BoolOp.Or, t with
    | .And, false | .Or, true => pure v
    | _, _ => boolOp pos .Or (y :: rest)) Q
  refine x_bind (x_mono h fun v m1 σ1 q => x_bind (x_standAt (x_bind (x_holding (x_mono q fun t m2 σ2 q2 => ?_)))))
  cases t with
  | false => exact q2
  | true => exact x_pure q2
theorem x_boolop {op : BoolOp} {vs : List Expr} {pos : Pos} {Q : Value → Lc → AH → Prop} (h : XV c m σ (boolOp pos op (evalEach vs env)) Q) : XV c m σ (eval (.BoolOp op vs pos) env) Q := h
theorem x_ifexp {test body orelse : Expr} {pos : Pos} {Q : Value → Lc → AH → Prop} (h : XV c m σ (isTrue test env (eval test env)) fun b m' σ' => if b then XV c m' σ' (eval body env) Q else XV c m' σ' (eval orelse env) Q) : XV c m σ (eval (.IfExp test body orelse pos) env) Q :=
  .mk fun s S => wpAny_IfExp (wpAny_mono (h.run s S) (fun b s' ⟨m', σ', S', q⟩ => by cases b <;> exact q.run s' S') fun _ _ e => e)
theorem x_binop {l r : Expr} {op : Operator} {pos : Pos} {Q : Value → Lc → AH → Prop} (h : XV c m σ (eval l env) fun a m1 σ1 => XV c m1 σ1 (eval r env) fun b m2 σ2 => XV c m2 σ2 (binaryOp op a b) Q) : XV c m σ (eval (.BinOp l op r pos) env) Q :=
  .mk fun s S => wpAny_BinOp (wpAny_mono (h.run s S) (fun _ s1 ⟨_, _, S1, q1⟩ => wpAny_mono (q1.run s1 S1) (fun _ s2 ⟨_, _, S2, q2⟩ => q2.run s2 S2) fun _ _ e => e) fun _ _ e => e)
theorem x_unary {op : UnaryOp} {x : Expr} {pos : Pos} {Q : Value → Lc → AH → Prop} (h : XV c m σ (eval x env) fun v m1 σ1 => XV c m1 σ1 (unaryOp op v) Q) : XV c m σ (eval (.UnaryOp op x pos) env) Q :=
  .mk fun s S => wpAny_UnaryOp (wpAny_mono (h.run s S) (fun _ s1 ⟨_, _, S1, q1⟩ => q1.run s1 S1) fun _ _ e => e)

-- constants
theorem x_int {i : Int} {k : Nat} {pos : Pos} {Q : Value → Lc → AH → Prop} (h : ∀ t, Q (.int i t) m σ) : XV c m σ (eval (.Constant (.int i) k pos) env) Q :=
  .mk fun s S => wpAny_Constant_int ⟨m, σ, S.tok _, h _⟩
theorem x_none {k : Nat} {pos : Pos} {Q : Value → Lc → AH → Prop} (h : Q .none m σ) : XV c m σ (eval (.Constant .none k pos) env) Q := .mk fun _ S => wpAny_Constant_none ⟨m, σ, S, h⟩
theorem x_bool {b : Bool} {k : Nat} {pos : Pos} {Q : Value → Lc → AH → Prop} (h : Q (.bool b) m σ) : XV c m σ (eval (.Constant (.bool b) k pos) env) Q := .mk fun _ S => wpAny_Constant_bool ⟨m, σ, S, h⟩

-- argument lists
theorem x_args_nil {pos : Pos} {Q : List Value → Lc → AH → Prop} (h : Q [] m σ) : XV c m σ (spliced (backTo pos (starEach [] env))) Q := x_pure h
theorem x_args {pos : Pos} {e : Expr} {es : List Expr} {Q : List Value → Lc → AH → Prop} (h : XV c m σ (eval e env) fun v m1 σ1 => XV c m1 σ1 (spliced (backTo pos (starEach es env))) fun vs => Q (v :: vs))
    (he : starEach (e :: es) env = (false, eval e env) :: starEach es env := by rfl) : XV c m σ (spliced (backTo pos (starEach (e :: es) env))) Q := by
  rw [he]
  exact .mk fun s S => spliced_cons (wpAny_mono (h.run s S) (fun _ s1 ⟨_, _, S1, q1⟩ => q1.run s1 S1) fun _ _ e => e)

-- truth
theorem x_truthy_bool {b : Bool} {Q : Bool → Lc → AH → Prop} (h : Q b m σ) : XV c m σ (truthy (.bool b)) Q := .mk fun _ S => wpAny_truthy_bool ⟨m, σ, S, h⟩
theorem x_truthy_none {Q : Bool → Lc → AH → Prop} (h : Q false m σ) : XV c m σ (truthy .none) Q := .mk fun _ S => (show wpAny c.M c.A (pure false) _ _ _ from wpAny_pure ⟨m, σ, S, h⟩)
end
-- fields
noncomputable def putF (x : PySem.Str) (v : Value) : List (PySem.Str × Value) → List (PySem.Str × Value)
  | [] => [(x, v)]
  | (y, w) :: r => if y = x then (y, v) :: r else (y, w) :: putF x v r
theorem FA.get {name : PySem.Str} : ∀ {es : List DictEntry} {fs : List (PySem.Str × Value)}, FA es fs → getL name es = some (fs.lookup name) ∧ es.any (·.refKey) = false := by
  intro es fs h
  induction h with
  | nil => exact ⟨rfl, rfl⟩
  | @cons es fs k x t v h ih =>
    have hr : (DictEntry.refKey ⟨k, .str x t, v⟩ || es.any (·.refKey)) = false := by rw [ih.2]; rfl
    have ih1 := ih.1
    unfold getL at ih1 ⊢
    rw [List.find?_cons, List.any_cons, hr]
    rw [ih.2] at ih1
    rw [List.lookup_cons]
    show _ ∧ false = false
    refine ⟨?_, rfl⟩
    by_cases q : x = name
    · subst q
      have e1 : (Value.str x t).isStr x = true := by show (x == x) = true; exact beq_self_eq_true x
      simp only [e1, beq_self_eq_true]
    · have e1 : (Value.str x t).isStr name = false := by show (x == name) = false; exact beq_eq_false_iff_ne.mpr q
      have e2 : (name == x) = false := beq_eq_false_iff_ne.mpr (Ne.symm q)
      simp only [e1, e2]
      exact ih1
theorem FA.put {name : PySem.Str} {hsh : Int} {t : Tok} {v : Value} : ∀ {es : List DictEntry} {fs : List (PySem.Str × Value)}, FA es fs → FA (putL name hsh (.str name t) v es) (putF name v fs) := by
  intro es fs h
  induction h with
  | nil => exact .cons _ _ _ _ .nil
  | @cons es fs k x t' v' h ih =>
    unfold putL putF
    by_cases q : x = name
    · subst q
      have e1 : (Value.str x t').isStr x = true := by show (x == x) = true; exact beq_self_eq_true x
      simp only [e1, if_true]
      exact .cons _ _ _ _ h
    · have e1 : (Value.str x t').isStr name = false := by show (x == name) = false; exact beq_eq_false_iff_ne.mpr q
      simp only [e1, Bool.false_eq_true, if_false, q]
      exact .cons _ _ _ _ ih
theorem FA.len : ∀ {es : List DictEntry} {fs : List (PySem.Str × Value)}, FA es fs → es.length = fs.length := by
  intro es fs h
  induction h with
  | nil => rfl
  | cons k x t v h ih => rw [List.length_cons, List.length_cons, ih]
theorem putF_len (x : PySem.Str) (v : Value) : ∀ fs : List (PySem.Str × Value), (putF x v fs).length ≤ fs.length + 1
  | [] => Nat.le_refl _
  | (y, w) :: r => by
    unfold putF
    split
    · simp
    · have := putF_len x v r; simp only [List.length_cons]; omega

/-- what the walk asks of a class: its instances are everyday objects -/
structure Cls (C : Addr) : Prop where
  get : ∀ P name, plainGet (Hd.KK P) C name = true
  dict : ∀ P, hasDictIn (Hd.KK P) C = true
  setat : ∀ P, findIn (Hd.KK P) (.ref C) "__setattr__" = some (some (.builtin "object.__setattr__"))
  over : ∀ P, plainOver (Hd.KK P) C = true

section
variable {α β : Type} {c : Cx} {m : Lc} {σ : AH} {env : Env}

theorem ST.inst {s : Shared} (S : ST c m σ s) {x C : Addr} {fs : List (PySem.Str × Value)} (e : σ x = some (.inst C fs)) :
    ∃ d es n, x = d + 1 ∧ InstAt s.heap x (instObj C d) C (some (dictOf es n)) ∧ s.heap.get? x = some (instObj C d) ∧ s.heap.get? d = some (dictOf es n) ∧ FA es fs := by
  obtain ⟨d, es, n, h0, h1, h2, h3⟩ := S.nodes x _ e
  exact ⟨d, es, n, h0, ⟨h1, rfl, rfl, h2⟩, h1, h2, h3⟩

/-- a field of an object -/
theorem x_field {x C : Addr} {fs : List (PySem.Str × Value)} {name : PySem.Str} {expr : Bool} {v : Value} {attr : Option Value} {Q : Value → Lc → AH → Prop} (e : σ x = some (.inst C fs)) (hv : fs.lookup name = some v)
    (k : Cls C) (ha : ∀ P, findIn (Hd.KK P) (.ref C) name = some attr) (hn : ∀ P, noGet (Hd.KK P) attr = true) (hh : handedIn v = true) (h : Q v m σ) : XV c m σ (getAttr (.ref x) name expr) Q :=
  .mk fun s S => by
    obtain ⟨d, es, n, _, I, _, _, A⟩ := S.inst e
    exact get_own S.f S.k I (k.get _ _) (k.dict _) (ha _) (hn _) (by rw [(A.get).1, hv]) hh ⟨m, σ, S.tok _, h⟩
/-- a plain value of the class, where the object has no such field -/
theorem x_clsfield {x C : Addr} {fs : List (PySem.Str × Value)} {name : PySem.Str} {expr : Bool} {v : Value} {Q : Value → Lc → AH → Prop} (e : σ x = some (.inst C fs)) (hv : fs.lookup name = none)
    (k : Cls C) (ha : ∀ P, findIn (Hd.KK P) (.ref C) name = some (some v)) (hn : ∀ P, specialIn (Hd.KK P) v "__get__" = some none) (hh : handedIn v = true) (hc : copiedNames.contains name = false) (h : Q v m σ) : XV c m σ (getAttr (.ref x) name expr) Q :=
  .mk fun s S => by
    obtain ⟨d, es, n, _, I, _, _, A⟩ := S.inst e
    exact get_cls S.f S.k I (k.get _ _) (k.dict _) (ha _) (hn _) hh hc (by rw [(A.get).1, hv]) ⟨m, σ, S.tok _, h⟩

theorem put_self (σ : AH) (x : Addr) (n : Node) : put σ x n x = some n := if_pos rfl
theorem put_ne {σ : AH} {x y : Addr} {n : Node} (h : y ≠ x) : put σ x n y = σ y := if_neg h

/-- the objects of a heap that neither the frozen part nor the frame holds, but the one at d -/
noncomputable def others (h₀ : Heap) (L d : Addr) (h : Heap) : List (Addr × Obj) :=
  (List.range h.objs.size).filterMap fun a => if a = L ∨ a = d ∨ (h₀.get? a).isSome = true then none else (h.get? a).map fun o => (a, o)
theorem mem_others {h₀ h : Heap} {L d a : Addr} {o : Obj} : (a, o) ∈ others h₀ L d h ↔ a ≠ L ∧ a ≠ d ∧ h₀.get? a = none ∧ h.get? a = some o := by
  unfold others
  rw [List.mem_filterMap]
  constructor
  · rintro ⟨b, hb, e⟩
    split at e
    · cases e
    · rename_i q
      obtain ⟨o', h1, h2⟩ := Option.map_eq_some_iff.mp e
      cases h2
      refine ⟨fun z => q (.inl z), fun z => q (.inr (.inl z)), ?_, h1⟩
      rcases z : h₀.get? a with _ | _
      · rfl
      · exact (q (.inr (.inr (by rw [z]; rfl)))).elim
  · rintro ⟨h1, h2, h3, h4⟩
    refine ⟨a, List.mem_range.mpr (Heap.lt_size h4), ?_⟩
    rw [if_neg (by rw [h3]; simp [h1, h2]), h4]
    rfl
theorem others_ne {h₀ h : Heap} {L d : Addr} : ∀ p ∈ others h₀ L d h, p.1 ≠ d := fun _ hp => (mem_others.mp hp).2.1
theorem others_news {h₀ h : Heap} {L d : Addr} : News h₀ L h (others h₀ L d h) := fun _ hp => ⟨(mem_others.mp hp).2.2.2, (mem_others.mp hp).1, (mem_others.mp hp).2.2.1⟩
theorem News.cons {h₀ h : Heap} {L a : Addr} {o : Obj} {l : List (Addr × Obj)} (h1 : h.get? a = some o) (h2 : a ≠ L) (h3 : h₀.get? a = none) (N : News h₀ L h l) : News h₀ L h ((a, o) :: l) := fun p hp => by
  rcases List.mem_cons.mp hp with rfl | hp
  · exact ⟨h1, h2, h3⟩
  · exact N p hp
theorem ST.turn2 {s : Shared} (S : ST c m σ s) {x : Addr} {n n' : Node} {h' : Heap} {t : Nat} (e : σ x = some n) (N : NodeAt h' x n') (ho : ∀ a, owns n' x a → owns n x a) (F : Fr c.h₀ c.L h' m)
    (hk : ∀ a o, ¬ owns n x a → a ≠ c.L → c.h₀.get? a = none → s.heap.get? a = some o → h'.get? a = some o) : ST c m (put σ x n') { s with heap := h', toks := t } where
  k := S.k
  t := S.t
  f := F
  nodes y n'' e' := by
    unfold put at e'
    split at e'
    · rename_i q; subst q; cases e'; exact N
    · rename_i q
      exact (S.nodes y n'' e').keep fun a o w z => hk a o (fun w' => q (S.sep _ _ _ _ _ e' e w w')) (S.out _ _ _ e' w).1 (S.out _ _ _ e' w).2 z
  out y n'' a e' w := by
    unfold put at e'
    split at e'
    · rename_i q; subst q; cases e'; exact S.out _ _ _ e (ho a w)
    · exact S.out y n'' a e' w
  sep y z n1 n2 a e1 e2 w1 w2 := by
    unfold put at e1 e2
    split at e1 <;> split at e2
    · rename_i q q'; rw [q, q']
    · rename_i q q'; subst q; cases e1; exact S.sep _ _ _ _ _ e e2 (ho a w1) w2
    · rename_i q q'; subst q'; cases e2; exact S.sep _ _ _ _ _ e1 e w1 (ho a w2)
    · exact S.sep y z n1 n2 a e1 e2 w1 w2
  gens := S.gens
  os := S.os

/-- a field stored -/
theorem x_setfield {x C : Addr} {fs : List (PySem.Str × Value)} {name : PySem.Str} {v : Value} {Q : Unit → Lc → AH → Prop} (e : σ x = some (.inst C fs))
    (k : Cls C) (ht : ∀ P, takerIn (Hd.KK P) C name = some none) (hz : fs.length ≤ 900) (h : Q () m (put σ x (.inst C (putF name v fs)))) : XV c m σ (setAttr (.ref x) name v) Q :=
  .mk fun s S => by
    obtain ⟨d, es, n, hx, I, h1, h2, A⟩ := S.inst e
    have hd := S.out _ _ d e (.inr hx.symm)
    have hxx := S.out _ _ x e (.inl rfl)
    have N : News c.h₀ c.L s.heap ((d, dictOf es n) :: others c.h₀ c.L d s.heap) := News.cons h2 hd.1 hd.2 others_news
    refine set_dict (dx := d) (es := es) (n := n) S.f S.k N I rfl (k.setat _) (k.over _) (ht _) (k.dict _) (by rw [(A.get).1]; rfl) rfl (.head others_ne) ?_ (fun h' F' N' => ?_)
    · have q1 := (A.put (name := name) (hsh := PyData.keyHash c.w.params name) (t := s.toks + 1) (v := v)).len
      have q2 := putF_len name v fs
      rw [q1]
      exact Nat.le_trans q2 (Nat.le_trans (Nat.succ_le_succ hz) (by decide))
    · have hxd : x ≠ d := by rw [hx]; exact Nat.succ_ne_self d
      refine ⟨m, _, S.turn2 (n' := .inst C (putF name v fs)) e ⟨d, _, _, hx, (N' _ (.tail _ (mem_others.mpr ⟨hxx.1, hxd, hxx.2, h1⟩))).1, (N' _ (.head _)).1, A.put⟩ (fun _ w => w) F' (fun a o w q1 q2 q3 => ?_), h⟩
      exact (N' _ (.tail _ (mem_others.mpr ⟨q1, fun z => w (.inr (by rw [z]; exact hx.symm)), q2, q3⟩))).1
end
noncomputable def Room (A : Around) (b : Nat) : Prop := A.depth + 2 * b < recursionLimit ∧ A.units + 8 * b < cLine ∧ A.handled = none
noncomputable def retv : Flow → Value
  | .ret v => v
  | _ => .none

/-- the addresses of a heap that neither the frozen part nor the frame holds -/
noncomputable def loosen (h₀ : Heap) (L : Addr) (h : Heap) : List Addr := (List.range h.objs.size).filter fun a => !(a == L || (h₀.get? a).isSome)
theorem mem_loosen {h₀ h : Heap} {L a : Addr} : a ∈ loosen h₀ L h ↔ a < h.objs.size ∧ a ≠ L ∧ h₀.get? a = none := by
  unfold loosen
  rw [List.mem_filter, List.mem_range]
  cases q : h₀.get? a <;> simp

structure XC (c : Cx) (m : Lc) (σ : AH) (code : Code) (Q : Value → Lc → AH → Prop) : Prop where
  run : ∀ s, ST c m σ s → codeAny c.M c.A code (fun r s' => match r with | .ok (.ret v) => ∃ m' σ', ST c m' σ' s' ∧ Q v m' σ' | .ok _ => False | .error _ => False) s
section
variable {α β : Type} {c : Cx} {m : Lc} {σ : AH}
theorem x_code {f : Value} {vs : List Value} {kw : List (PySem.Str × Value)} {Q : Value → Lc → AH → Prop} (h : XC c m σ (.call f ⟨vs, kw⟩) Q) : XV c m σ (call f vs kw) Q := .mk fun s S => wpAny_call (h.run s S)

theorem xc_call {b : Nat} {f : Addr} {st : Stmt} {qual : PySem.Str} {cl : List (PySem.Str × Addr)} {dv pm cdv ct : Value} {vs : List Value} {kw : List (PySem.Str × Value)} {binds : List (PySem.Str × Value)} {Q : Value → Lc → AH → Prop}
    (hf : ∀ P, (Hd.KK P).lookup f = some (Hd.fnO st qual cl dv pm cdv ct)) (hcd : ∀ P, codeIn (Hd.KK P) cdv qual = true)
    (hb : ∀ P (s : Shared), (Hd.KK P).In s.heap → BindsTo s (fnX (Hd.fName st) qual (Hd.fArgs st) (Hd.fBody st) (Hd.fScope st) cl dv .none .none pm none cdv ct) ⟨vs, kw⟩ binds)
    (hloc : (binds.all fun x => decide ((Hd.fScope st).names.lookup x.1 = some .local)) = true) (hcell : ((Hd.fScope st).names.all fun x => decide (x.2 ≠ .cell)) = true)
    (hk : (Hd.fScope st).isCoroutine = false ∧ (Hd.fScope st).isGenerator = false ∧ (Hd.fScope st).kind = .function) (hr : Room c.A (b + 1))
    (h : ∀ A' h₀' L', Room A' b → XV { c with A := A', h₀ := h₀', L := L' } (fun y => binds.reverse.lookup y) σ (execs (Hd.fBody st) (envX qual (Hd.fScope st) L' f cdv cl)) fun fl _ σ' => Q (retv fl) m σ') :
    XC c m σ (.call (.ref f) ⟨vs, kw⟩) Q := .mk fun s S => by
  obtain ⟨hco, hgen, hkk⟩ := hk
  have X : (Hd.KK c.w.params).In s.heap := S.k.keeps S.f.keep
  refine (codeAny_call_def (fd := fnX (Hd.fName st) qual (Hd.fArgs st) (Hd.fBody st) (Hd.fScope st) cl dv .none .none pm none cdv ct) (body := Hd.fBody st) (binds := binds)
    (Nat.lt_of_le_of_lt (Nat.le_add_right _ _) hr.1) (X _ _ (hf _)) rfl (S.t.nolimit.keeps S.f.keep) (codeRec_of X (hcd _)) rfl (hb _ s X)
    (fun x hx => of_decide_eq_true (List.all_eq_true.mp hcell x hx)) (locs hloc) (fun h₁ hns hk₁ => ?_) hco hgen hkk)
  have hA : Room (c.A.deeper (envX qual (Hd.fScope st) s.heap.objs.size f cdv cl)) b := by
    obtain ⟨r1, r2, r3⟩ := hr
    refine ⟨?_, ?_, r3⟩
    · show c.A.depth + 1 + 2 * b < recursionLimit; omega
    · show c.A.units + 3 + 8 * b < cLine; omega
  obtain ⟨oL, es, ep, hL, hLr⟩ := S.f.ns
  have hLg : (hideAll s.heap (loosen c.h₀ c.L s.heap)).get? c.L = some oL := hideAll_get _ hL fun q => (mem_loosen.mp q).2.1 rfl
  have st0 : ∀ a o, c.h₀.get? a = some o → (hideAll s.heap (loosen c.h₀ c.L s.heap)).get? a = some o := fun a o e => hideAll_get _ (S.f.keep a o e) fun q => by rw [(mem_loosen.mp q).2.2] at e; cases e
  have S' : ST { c with A := c.A.deeper (envX qual (Hd.fScope st) s.heap.objs.size f cdv cl), h₀ := hideAll s.heap (loosen c.h₀ c.L s.heap), L := s.heap.objs.size } (fun y => binds.reverse.lookup y) σ { s with heap := h₁, toks := s.toks + binds.length } := by
    refine ⟨S.k.keeps st0, S.t.keeps st0, ⟨hns, fun a o e => hk₁ a o (of_hideAll _ e), Nat.le_of_eq (hideAll_size _ _)⟩, fun y n e => (S.nodes y n e).keep fun a o _ q => hk₁ a o q, fun y n a e w => ?_, S.sep, S.gens, S.os⟩
    have lt := S.fresh e w
    exact ⟨Nat.ne_of_lt lt, hideAll_none _ (mem_loosen.mpr ⟨lt, S.out _ _ _ e w⟩)⟩
  refine wpAny_mono ((h _ _ _ hA).run _ S') (fun fl s' ⟨m', σ', T, q⟩ => ?_) (fun _ _ e => e.elim)
  refine ⟨m, σ', ⟨S.k, S.t, ⟨⟨oL, es, ep, T.f.keep _ _ hLg, hLr⟩, fun a o e => T.f.keep a o (st0 a o e), S.f.above⟩, T.nodes, fun y n a e w => ⟨fun z => ?_, ?_⟩, T.sep, T.gens, T.os⟩, q⟩
  · have := (T.out _ _ _ e w).2
    rw [z] at this
    exact absurd (this.symm.trans hLg) (by simp)
  · rcases z : c.h₀.get? a with _ | o
    · rfl
    · have := (T.out _ _ _ e w).2
      exact absurd (this.symm.trans (st0 _ _ z)) (by simp)
theorem x_call {b : Nat} {f : Addr} {st : Stmt} {qual : PySem.Str} {cl : List (PySem.Str × Addr)} {dv pm cdv ct : Value} {vs : List Value} {kw : List (PySem.Str × Value)} {binds : List (PySem.Str × Value)} {Q : Value → Lc → AH → Prop}
    (hf : ∀ P, (Hd.KK P).lookup f = some (Hd.fnO st qual cl dv pm cdv ct)) (hcd : ∀ P, codeIn (Hd.KK P) cdv qual = true)
    (hb : ∀ P (s : Shared), (Hd.KK P).In s.heap → BindsTo s (fnX (Hd.fName st) qual (Hd.fArgs st) (Hd.fBody st) (Hd.fScope st) cl dv .none .none pm none cdv ct) ⟨vs, kw⟩ binds)
    (hloc : (binds.all fun x => decide ((Hd.fScope st).names.lookup x.1 = some .local)) = true) (hcell : ((Hd.fScope st).names.all fun x => decide (x.2 ≠ .cell)) = true)
    (hk : (Hd.fScope st).isCoroutine = false ∧ (Hd.fScope st).isGenerator = false ∧ (Hd.fScope st).kind = .function) (hr : Room c.A (b + 1))
    (h : ∀ A' h₀' L', Room A' b → XV { c with A := A', h₀ := h₀', L := L' } (fun y => binds.reverse.lookup y) σ (execs (Hd.fBody st) (envX qual (Hd.fScope st) L' f cdv cl)) fun fl _ σ' => Q (retv fl) m σ') :
    XV c m σ (call (.ref f) vs kw) Q := x_code (xc_call hf hcd hb hloc hcell hk hr h)
end
section
variable {α β : Type} {c : Cx} {m : Lc} {σ : AH} {env : Env}

theorem x_mcall {o : Expr} {name : PySem.Str} {apos pos : Pos} {args : List Expr} {kws : List Keyword} {pl : Sem Bool} {Q : Value → Lc → AH → Prop}
    (h : XV c m σ (eval o env) fun ov m1 σ1 => XV c m1 σ1 (getMethod ov name pl) fun fx m2 σ2 => XV c m2 σ2 (callWith pos fx.1 fx.2 (backTo pos (starEach args env)) (backToKw pos (keywordEach kws env))) Q)
    (he : eval (.Call (.Attribute o name apos) args kws pos) env = (do
      let ov ← eval o env
      standAt apos.atName
      let (f, first) ← holding [ov] (getMethod ov name pl)
      callWith pos f first (backTo pos (starEach args env)) (backToKw pos (keywordEach kws env))) := by rfl) :
    XV c m σ (eval (.Call (.Attribute o name apos) args kws pos) env) Q :=
  .mk fun s S => methodCall_KW (wpAny_mono (h.run s S) (fun _ s1 ⟨_, _, S1, q1⟩ => wpAny_mono (q1.run s1 S1) (fun _ s2 ⟨_, _, S2, q2⟩ => q2.run s2 S2) fun _ _ e => e) fun _ _ e => e) he
theorem x_method {x C f : Addr} {fs : List (PySem.Str × Value)} {name : PySem.Str} {pl : Sem Bool} {Q : Value × List Value → Lc → AH → Prop} (e : σ x = some (.inst C fs)) (hv : fs.lookup name = none)
    (k : Cls C) (hf : ∀ P, findIn (Hd.KK P) (.ref C) name = some (some (.ref f))) (hfn : ∀ P, isFn (Hd.KK P) (.ref f) = true) (h : Q (.ref f, [.ref x]) m σ) : XV c m σ (getMethod (.ref x) name pl) Q :=
  .mk fun s S => by
    obtain ⟨d, es, n, _, I, _, _, A⟩ := S.inst e
    exact method_inst S.f S.k I (k.get _ _) (hf _) (hfn _) (by rw [(A.get).1, hv]) ⟨m, σ, S, h⟩
theorem x_fcall {id : PySem.Str} {p pos : Pos} {args : List Expr} {kws : List Keyword} {Q : Value → Lc → AH → Prop}
    (h : XV c m σ (eval (.Name id p) env) fun f m1 σ1 => XV c m1 σ1 (callWith pos f [] (backTo pos (starEach args env)) (backToKw pos (keywordEach kws env))) Q) :
    XV c m σ (eval (.Call (.Name id p) args kws pos) env) Q :=
  .mk fun s S => wpAny_Call_Name_kw (wpAny_mono (h.run s S) (fun _ s1 ⟨_, _, S1, q1⟩ => q1.run s1 S1) fun _ _ e => e)
/-- the arguments of a call without keywords -/
theorem x_cw {f : Value} {first : List Value} {args : List Expr} {pos : Pos} {Q : Value → Lc → AH → Prop} (hk : ∀ P, keepIn (Hd.KK P) f = true)
    (h : XV c m σ (spliced (backTo pos (starEach args env))) fun vs m' σ' => XV c m' σ' (call f (first ++ vs) []) Q)
    (hplain : (backTo pos (starEach args env)).any (·.1) = false := by rfl) :
    XV c m σ (callWith pos f first (backTo pos (starEach args env)) (backToKw pos (keywordEach [] env))) Q := .mk fun s S => by
  refine callWith_of (P := (Hd.KK c.w.params).In) (by rw [hplain]; rfl) (keeps_K (hk _)) ?_
  have h' := wpAny_mono (h.run s S) (fun vs s1 (z : ∃ m' σ', ST c m' σ' s1 ∧ XV c m' σ' (call f (first ++ vs) []) Q) =>
    show (Hd.KK c.w.params).In s1.heap ∧ wpAny c.M c.A (call f (first ++ vs) []) (fun a s' => ∃ m' σ', ST c m' σ' s' ∧ Q a m' σ') (fun _ _ => False) s1 from ⟨z.choose_spec.choose_spec.1.k.keeps z.choose_spec.choose_spec.1.f.keep, z.choose_spec.choose_spec.2.run s1 z.choose_spec.choose_spec.1⟩) (fun _ _ e => e)
  revert hplain h'
  generalize backTo pos (starEach args env) = L
  intro hplain h'
  cases L with
  | nil => exact fun Γ p hΓ => PySem.evalArgs_none (s := s) (h' Γ p hΓ) Γ p hΓ
  | cons a r =>
    obtain ⟨b, t⟩ := a
    have hb : b = false := by
      rw [List.any_cons] at hplain
      exact (Bool.or_eq_false_iff.mp hplain).1
    subst hb
    exact evalArgs_plain h'
/-- the arguments of a call with keywords -/
theorem x_kw_nil {pos : Pos} {Q : List Value → Lc → AH → Prop} (h : Q [] m σ) : XV c m σ (evalAll ((backToKw pos (keywordEach [] env)).map (·.2))) Q :=
  .mk fun _ S => wpAny_evalAll_nil ⟨m, σ, S, h⟩
theorem x_kw {pos p : Pos} {n : Option PySem.Str} {e : Expr} {r : List Keyword} {Q : List Value → Lc → AH → Prop}
    (h : XV c m σ (eval e env) fun v m1 σ1 => XV c m1 σ1 (evalAll ((backToKw pos (keywordEach r env)).map (·.2))) fun vs => Q (v :: vs)) :
    XV c m σ (evalAll ((backToKw pos (keywordEach (⟨n, e, p⟩ :: r) env)).map (·.2))) Q := by
  show XV c m σ (do let v ← (do let v ← eval e env; standAt pos; pure v); let vs ← holding [v] (evalAll ((backToKw pos (keywordEach r env)).map (·.2))); pure (v :: vs)) Q
  exact x_bind (x_bind (x_mono h fun v m1 σ1 q => x_bind (x_standAt (x_pure (x_bind (x_holding (x_mono q fun vs m2 σ2 q2 => x_pure q2)))))))
theorem x_cwk {f : Value} {first : List Value} {e : Expr} {args : List Expr} {kws : List Keyword} {pos : Pos} {Q : Value → Lc → AH → Prop} (hk : ∀ P, keepIn (Hd.KK P) f = true)
    (h : XV c m σ (spliced (backTo pos (starEach (e :: args) env))) fun vs m1 σ1 => XV c m1 σ1 (evalAll ((backToKw pos (keywordEach kws env)).map (·.2))) fun ks m2 σ2 =>
      XV c m2 σ2 (call f (first ++ vs) (((backToKw pos (keywordEach kws env)).filterMap (·.1)).zip ks)) Q)
    (hall : (backToKw pos (keywordEach kws env)).all (·.1.isSome) = true := by rfl)
    (hplain : ((backTo pos (starEach (e :: args) env)).any (·.1) || (backToKw pos (keywordEach kws env)).any (·.1.isNone)) = false := by rfl) (he : starEach (e :: args) env = (false, eval e env) :: starEach args env := by rfl) :
    XV c m σ (callWith pos f first (backTo pos (starEach (e :: args) env)) (backToKw pos (keywordEach kws env))) Q := .mk fun s S =>
  callWith_KW S.k (hk _) hall (wpAny_mono (h.run s S) (fun vs s1 ⟨_, _, S1, q1⟩ => wpAny_mono (q1.run s1 S1) (fun ks s2 ⟨_, _, S2, q2⟩ => ⟨S2.k.keeps S2.f.keep, q2.run s2 S2⟩) fun _ _ e => e) fun _ _ e => e) hplain he
end
section
variable {α β : Type} {c : Cx} {m : Lc} {σ : AH} {env : Env}

theorem x_attr {value : Expr} {attr : PySem.Str} {pos : Pos} {Q : Value → Lc → AH → Prop}
    (h : XV c m σ (eval value env) fun o m1 σ1 => XV c m1 σ1 (getAttr o attr true) Q)
    (he : eval (.Attribute value attr pos) env = (do
      let o ← eval value env
      standAt pos.atName
      let r ← holding [o] (getAttr o attr true)
      letTemporaryGo value o r
      pure r) := by with_unfolding_all rfl) : XV c m σ (eval (.Attribute value attr pos) env) Q :=
  .mk fun s S => Attribute_any_ (wpAny_mono (h.run s S) (fun _ s1 ⟨_, _, S1, q1⟩ => q1.run s1 S1) fun _ _ e => e) he

-- integers
section
variable {a b : Int} {t u : Tok}
theorem x_add_int {Q : Value → Lc → AH → Prop} (h : ∀ t, Q (.int (a + b) t) m σ) : XV c m σ (binaryOp .Add (.int a t) (.int b u)) Q := .mk fun _ S => P.add_int ⟨m, σ, S.tok _, h _⟩
theorem x_iadd_int {Q : Value → Lc → AH → Prop} (h : ∀ t, Q (.int (a + b) t) m σ) : XV c m σ (inplaceOp .Add (.int a t) (.int b u)) Q := .mk fun _ S => P.iadd_int ⟨m, σ, S.tok _, h _⟩
theorem x_sub_int {Q : Value → Lc → AH → Prop} (h : ∀ t, Q (.int (a - b) t) m σ) : XV c m σ (binaryOp .Sub (.int a t) (.int b u)) Q := .mk fun _ S => P.sub_int ⟨m, σ, S.tok _, h _⟩
theorem x_mul_int {Q : Value → Lc → AH → Prop} (h : ∀ t, Q (.int (a * b) t) m σ) (hm : IntMulOk a b) : XV c m σ (binaryOp .Mult (.int a t) (.int b u)) Q := .mk fun _ S => P.mul_int ⟨m, σ, S.tok _, h _⟩ hm
theorem x_eq_int {Q : Value → Lc → AH → Prop} (h : Q (.bool (a == b)) m σ) : XV c m σ (compareOp .Eq (.int a t) (.int b u)) Q := .mk fun _ S => P.eq_int ⟨m, σ, S, h⟩
theorem x_ne_int {Q : Value → Lc → AH → Prop} (h : Q (.bool (a != b)) m σ) : XV c m σ (compareOp .NotEq (.int a t) (.int b u)) Q := .mk fun _ S => P.ne_int ⟨m, σ, S, h⟩
theorem x_lt_int {Q : Value → Lc → AH → Prop} (h : Q (.bool (decide (a < b))) m σ) : XV c m σ (compareOp .Lt (.int a t) (.int b u)) Q := .mk fun _ S => P.lt_int ⟨m, σ, S, h⟩
theorem x_le_int {Q : Value → Lc → AH → Prop} (h : Q (.bool (decide (a ≤ b))) m σ) : XV c m σ (compareOp .LtE (.int a t) (.int b u)) Q := .mk fun _ S => P.le_int ⟨m, σ, S, h⟩
theorem x_gt_int {Q : Value → Lc → AH → Prop} (h : Q (.bool (decide (a > b))) m σ) : XV c m σ (compareOp .Gt (.int a t) (.int b u)) Q := .mk fun _ S => P.gt_int ⟨m, σ, S, h⟩
theorem x_ge_int {Q : Value → Lc → AH → Prop} (h : Q (.bool (decide (a ≥ b))) m σ) : XV c m σ (compareOp .GtE (.int a t) (.int b u)) Q := .mk fun _ S => P.ge_int ⟨m, σ, S, h⟩
theorem x_truthy_int {Q : Bool → Lc → AH → Prop} (h : Q (a != 0) m σ) : XV c m σ (truthy (.int a t)) Q := .mk fun _ S => P.truthy_int ⟨m, σ, S, h⟩
theorem x_min {Q : Value → Lc → AH → Prop} (hh : c.A.handled = none) (h : ∀ t, Q (.int (min a b) t) m σ) : XV c m σ (call (.builtin "min") [.int a t, .int b u] []) Q := .mk fun _ S => by
  refine min_two_ints hh fun h' tk hk => ?_
  have S' := S.keeps (t := tk) hk
  by_cases q : b < a
  · rw [if_pos q]; exact ⟨m, σ, S', by have := h u; rwa [Int.min_eq_right (Int.le_of_lt q)] at this⟩
  · rw [if_neg q]; exact ⟨m, σ, S', by have := h t; rwa [Int.min_eq_left (Int.not_lt.mp q)] at this⟩
theorem x_max {Q : Value → Lc → AH → Prop} (hh : c.A.handled = none) (h : ∀ t, Q (.int (max a b) t) m σ) : XV c m σ (call (.builtin "max") [.int a t, .int b u] []) Q := .mk fun _ S => by
  refine max_two_ints hh fun h' tk hk => ?_
  have S' := S.keeps (t := tk) hk
  by_cases q : b > a
  · rw [if_pos q]; exact ⟨m, σ, S', by have := h u; rwa [Int.max_eq_right (Int.le_of_lt q)] at this⟩
  · rw [if_neg q]; exact ⟨m, σ, S', by have := h t; rwa [Int.max_eq_left (Int.not_lt.mp q)] at this⟩
end
theorem x_is_none {v : Value} {Q : Value → Lc → AH → Prop} (h : Q (.bool (v == .none)) m σ) : XV c m σ (compareOp .Is v .none) Q := .mk fun _ S => is_none ⟨m, σ, S, h⟩
theorem x_isNot_none {v : Value} {Q : Value → Lc → AH → Prop} (h : Q (.bool (!(v == .none))) m σ) : XV c m σ (compareOp .IsNot v .none) Q := .mk fun _ S => isNot_none ⟨m, σ, S, h⟩
theorem x_not {v : Value} {Q : Value → Lc → AH → Prop} (h : XV c m σ (truthy v) fun b => Q (.bool (!b))) : XV c m σ (unaryOp .Not v) Q := .mk fun s S => not_value (h.run s S)

-- lists
theorem ST.list {s : Shared} (S : ST c m σ s) {l : Addr} {vs : List Value} (e : σ l = some (.list vs)) : s.heap.IsList l vs.toArray := by
  obtain ⟨n, h⟩ := S.nodes l _ e
  exact ⟨_, h, rfl, n, rfl⟩
theorem x_item {value slice : Expr} {pos : Pos} {Q : Value → Lc → AH → Prop}
    (h : XV c m σ (eval value env) fun o m1 σ1 => XV c m1 σ1 (eval slice env) fun i m2 σ2 => XV c m2 σ2 (subscriptTail value slice o i) Q)
    (he : eval (.Subscript value slice pos) env = (do
      let o ← eval value env
      let i ← holding [o] (eval slice env)
      standAt pos
      subscriptTail value slice o i) := by rfl) : XV c m σ (eval (.Subscript value slice pos) env) Q := by
  rw [he]
  exact x_bind (x_mono h fun o m1 σ1 q => x_bind (x_holding (x_mono q fun i m2 σ2 q => x_bind (x_standAt q))))
theorem x_list_item {value slice : Expr} {l : Addr} {vs : List Value} {k : Int} {t : Tok} {v : Value} {Q : Value → Lc → AH → Prop} (e : σ l = some (.list vs)) (h0 : 0 ≤ k) (hk : k < 2 ^ 63) (hx : vs[k.toNat]? = some v) (h : Q v m σ)
    (hs : subscripted slice false (.ref l) (.int k t) = operate [.ref l, .int k t] (getItem (.ref l) (.int k t)) := by with_unfolding_all rfl) :
    XV c m σ (subscriptTail value slice (.ref l) (.int k t)) Q := .mk fun _ S =>
  have hl := S.list e
  tail_any hl.typeIs slot_list_getitem.lookup (wpAny_getItem_list hl h0 hk (by simpa using hx) ⟨m, σ, S, h⟩) hs
theorem x_len_list {l : Addr} {vs : List Value} {Q : Value → Lc → AH → Prop} (e : σ l = some (.list vs)) (hz : vs.length < 2 ^ 62) (h : ∀ t, Q (.int vs.length t) m σ) : XV c m σ (call (.builtin "len") [.ref l] []) Q := .mk fun _ S =>
  call_len_list (S.list e) (by rw [List.size_toArray]; omega) ⟨m, σ, S.tok _, by rw [List.size_toArray]; exact h _⟩
theorem x_truthy_list {l : Addr} {vs : List Value} {Q : Bool → Lc → AH → Prop} (e : σ l = some (.list vs)) (hz : vs.length < 2 ^ 62) (h : Q (!vs.isEmpty) m σ) : XV c m σ (truthy (.ref l)) Q := .mk fun _ S =>
  wpAny_truthy_list (S.list e) (by rw [List.size_toArray]; omega) ⟨m, σ, S.tok _, by rw [List.isEmpty_toArray]; exact h⟩
theorem ST.pushList {s : Shared} (S : ST c m σ s) (vs : List Value) : σ s.heap.objs.size = none ∧ ST c m (put σ s.heap.objs.size (.list vs)) { s with heap := s.heap.push { cls := .type "list", data := .seq vs.toArray } } := by
  have hn : ∀ y n, σ y = some n → ¬ owns n y s.heap.objs.size := fun y n e w => Nat.lt_irrefl _ (S.fresh e w)
  refine ⟨?_, (S.push _ s.toks).add (x := s.heap.objs.size) (n := .list vs) ⟨0, Heap.get?_push_size _ rfl⟩ fun a w => ?_⟩
  · rcases z : σ s.heap.objs.size with _ | n
    · rfl
    · exact (hn _ _ z (owns_self _ _)).elim
  · cases (show a = s.heap.objs.size from w)
    refine ⟨Nat.ne_of_gt S.ltL, ?_, hn⟩
    rcases z : c.h₀.get? s.heap.objs.size with _ | o
    · rfl
    · exact (Nat.lt_irrefl _ (S.lt0 z)).elim
theorem x_newlist {vs : List Value} {Q : Value → Lc → AH → Prop} (hz : vs.length ≤ sizeLine) (h : ∀ l, σ l = none → Q (.ref l) m (put σ l (.list vs))) : XV c m σ (newList vs) Q := .mk fun s S =>
  wpAny_newObj_type ⟨m, _, (S.pushList vs).2, h _ (S.pushList vs).1⟩ (by show vs.toArray.size ≤ sizeLine; rw [List.size_toArray]; exact hz)
theorem x_list {elts : List Expr} {pos : Pos} {Q : Value → Lc → AH → Prop} (h : XV c m σ (spliced (backTo pos (starEach elts env))) fun vs m1 σ1 => XV c m1 σ1 (newList vs) Q) : XV c m σ (eval (.List elts pos) env) Q :=
  .mk fun s S => List_ (wpAny_mono (h.run s S) (fun _ s1 ⟨_, _, S1, q1⟩ => q1.run s1 S1) fun _ _ e => e)
end
section
variable {α β : Type} {c : Cx} {m : Lc} {σ : AH} {env : Env}
theorem ST.gone {s : Shared} (S : ST c m σ s) {x : Addr} (h : s.heap.objs.size ≤ x) : σ x = none := by
  rcases z : σ x with _ | n
  · rfl
  · exact (Nat.lt_irrefl _ (Nat.lt_of_lt_of_le (S.fresh z (owns_self _ _)) h)).elim
theorem ST.gone0 {s : Shared} (S : ST c m σ s) {x : Addr} (h : s.heap.objs.size ≤ x) : c.h₀.get? x = none := by
  rcases z : c.h₀.get? x with _ | n
  · rfl
  · exact (Nat.lt_irrefl _ (Nat.lt_of_lt_of_le (S.lt0 z) h)).elim
/-- an object made: its __init__ is a def of the program -/
theorem xc_make {b : Nat} {C fI : Addr} {rest : List Value} {kw : List (PySem.Str × Value)} {Q : Value → Lc → AH → Prop}
    (hm : ∀ P, makesIn (Hd.KK P) C = true) (hi : ∀ P, findIn (Hd.KK P) (.ref C) "__init__" = some (some (.ref fI))) (hf : ∀ P, typeIn (Hd.KK P) (.ref fI) = some (.type "function")) (hr : Room c.A (b + 1))
    (h : ∀ x A', σ x = none → Room A' b → XC { c with A := A' } m (put σ x (.inst C [])) (.call (.ref fI) ⟨.ref x :: rest, kw⟩) fun v m' σ' => v = .none ∧ Q (.ref x) m' σ') :
    XC c m σ (.call (.ref C) ⟨rest, kw⟩) Q := .mk fun s S => by
  have X : (Hd.KK c.w.params).In s.heap := S.k.keeps S.f.keep
  have S1 := (S.push emptyDict s.toks).push (instObj C s.heap.objs.size) s.toks
  have sz : (s.heap.push emptyDict).objs.size = s.heap.objs.size + 1 := Heap.size_push ..
  have g1 : ((s.heap.push emptyDict).push (instObj C s.heap.objs.size)).get? (s.heap.objs.size + 1) = some (instObj C s.heap.objs.size) := by
    rw [← sz]; exact Heap.get?_push_size _ rfl
  have g2 : ((s.heap.push emptyDict).push (instObj C s.heap.objs.size)).get? s.heap.objs.size = some (dictOf [] 0) := Heap.get?_push_of_some _ (Heap.get?_push_size _ rfl)
  have S2 := S1.add (x := s.heap.objs.size + 1) (n := .inst C []) ⟨s.heap.objs.size, [], 0, rfl, g1, g2, .nil⟩ (fun a w => by
    have ha : s.heap.objs.size ≤ a := by
      rcases w with rfl | w
      · exact Nat.le_succ _
      · exact Nat.le_of_eq (Nat.succ.inj w).symm
    exact ⟨fun z => Nat.lt_irrefl _ (Nat.lt_of_lt_of_le S.ltL (z ▸ ha)), S.gone0 ha, fun y n' e w' => Nat.lt_irrefl _ (Nat.lt_of_lt_of_le (S.fresh e w') ha)⟩)
  have hA : Room (c.A.under (.builtin "type.__call__" ⟨.ref C :: rest, kw⟩)) b := by
    obtain ⟨r1, r2, r3⟩ := hr
    refine ⟨?_, ?_, r3⟩
    · show c.A.depth + 1 + 2 * b < recursionLimit; omega
    · show c.A.units + 1 + 8 * b < cLine; omega
  have z := (h (s.heap.objs.size + 1) (c.A.under (.builtin "type.__call__" ⟨.ref C :: rest, kw⟩)) (S.gone (Nat.le_succ _)) hA).run _ ⟨S2.k, S2.t, S2.f, S2.nodes, S2.out, S2.sep, S2.gens, S2.os⟩
  obtain ⟨hh, g, d, t, os⟩ := s
  refine make_core (makes_of X (hm _)) (looks_findIn X (hi _)) (fun self => bind_fn X self (hf _)) (.inl rfl) (codeAny_mono z fun r s' q => ?_)
  rcases r with e | (v | _ | _ | _) <;> first | exact q.elim | skip
  obtain ⟨m', σ', T, e, q⟩ := q
  exact ⟨e, m', σ', ⟨T.k, T.t, T.f, T.nodes, T.out, T.sep, T.gens, T.os⟩, q⟩
end
/-- a method of a class: where the look for it ends -/
structure MF (C : Addr) (name : PySem.Str) (f : Addr) : Prop where
  cls : Cls C
  find : ∀ P, findIn (Hd.KK P) (.ref C) name = some (some (.ref f))
  isf : ∀ P, isFn (Hd.KK P) (.ref f) = true
  keep : ∀ P, keepIn (Hd.KK P) (.ref f) = true
/-- a field name that the class itself knows nothing of -/
structure FF (C : Addr) (name : PySem.Str) : Prop where
  cls : Cls C
  find : ∀ P, findIn (Hd.KK P) (.ref C) name = some none
  tk : ∀ P, takerIn (Hd.KK P) C name = some none
theorem noGetNone (P) : noGet (Hd.KK P) none = true := rfl

theorem k453 : Cls 453 := ⟨fun P n => by kernel_rfl, fun P => by kernel_rfl, fun P => by kernel_rfl, fun P => by kernel_rfl⟩
theorem a453_ids : FF 453 "_ids" := ⟨k453, fun P => by kernel_rfl, fun P => by kernel_rfl⟩
theorem a453_weights : FF 453 "_weights" := ⟨k453, fun P => by kernel_rfl, fun P => by kernel_rfl⟩
theorem a453_all_weights : FF 453 "_all_weights" := ⟨k453, fun P => by kernel_rfl, fun P => by kernel_rfl⟩
theorem a453_values : FF 453 "_values" := ⟨k453, fun P => by kernel_rfl, fun P => by kernel_rfl⟩
theorem a453_i : FF 453 "_i" := ⟨k453, fun P => by kernel_rfl, fun P => by kernel_rfl⟩
theorem a453_format : FF 453 "_format" := ⟨k453, fun P => by kernel_rfl, fun P => by kernel_rfl⟩
theorem a453_scorer : FF 453 "_scorer" := ⟨k453, fun P => by kernel_rfl, fun P => by kernel_rfl⟩
theorem a453_term : FF 453 "_term" := ⟨k453, fun P => by kernel_rfl, fun P => by kernel_rfl⟩
theorem a453_terminfo : FF 453 "_terminfo" := ⟨k453, fun P => by kernel_rfl, fun P => by kernel_rfl⟩
theorem m453___init__ : MF 453 "__init__" 309 := ⟨k453, fun P => by kernel_rfl, fun P => by kernel_rfl, fun P => by kernel_rfl⟩
theorem m453_is_active : MF 453 "is_active" 316 := ⟨k453, fun P => by kernel_rfl, fun P => by kernel_rfl, fun P => by kernel_rfl⟩
theorem m453_skip_to : MF 453 "skip_to" 330 := ⟨k453, fun P => by kernel_rfl, fun P => by kernel_rfl, fun P => by kernel_rfl⟩
theorem m453_id : MF 453 "id" 387 := ⟨k453, fun P => by kernel_rfl, fun P => by kernel_rfl, fun P => by kernel_rfl⟩
theorem m453_next : MF 453 "next" 415 := ⟨k453, fun P => by kernel_rfl, fun P => by kernel_rfl, fun P => by kernel_rfl⟩
theorem m453_weight : MF 453 "weight" 422 := ⟨k453, fun P => by kernel_rfl, fun P => by kernel_rfl, fun P => by kernel_rfl⟩
theorem k593 : Cls 593 := ⟨fun P n => by kernel_rfl, fun P => by kernel_rfl, fun P => by kernel_rfl, fun P => by kernel_rfl⟩
theorem a593matchers : FF 593 "matchers" := ⟨k593, fun P => by kernel_rfl, fun P => by kernel_rfl⟩
theorem a593offsets : FF 593 "offsets" := ⟨k593, fun P => by kernel_rfl, fun P => by kernel_rfl⟩
theorem a593scorer : FF 593 "scorer" := ⟨k593, fun P => by kernel_rfl, fun P => by kernel_rfl⟩
theorem a593current : FF 593 "current" := ⟨k593, fun P => by kernel_rfl, fun P => by kernel_rfl⟩
theorem m593___init__ : MF 593 "__init__" 470 := ⟨k593, fun P => by kernel_rfl, fun P => by kernel_rfl, fun P => by kernel_rfl⟩
theorem m593_is_active : MF 593 "is_active" 477 := ⟨k593, fun P => by kernel_rfl, fun P => by kernel_rfl, fun P => by kernel_rfl⟩
theorem m593__next_matcher : MF 593 "_next_matcher" 498 := ⟨k593, fun P => by kernel_rfl, fun P => by kernel_rfl, fun P => by kernel_rfl⟩
theorem m593_replace : MF 593 "replace" 520 := ⟨k593, fun P => by kernel_rfl, fun P => by kernel_rfl, fun P => by kernel_rfl⟩
theorem m593_id : MF 593 "id" 527 := ⟨k593, fun P => by kernel_rfl, fun P => by kernel_rfl, fun P => by kernel_rfl⟩
theorem m593_next : MF 593 "next" 548 := ⟨k593, fun P => by kernel_rfl, fun P => by kernel_rfl, fun P => by kernel_rfl⟩
theorem m593_skip_to : MF 593 "skip_to" 555 := ⟨k593, fun P => by kernel_rfl, fun P => by kernel_rfl, fun P => by kernel_rfl⟩
theorem m593_weight : MF 593 "weight" 583 := ⟨k593, fun P => by kernel_rfl, fun P => by kernel_rfl, fun P => by kernel_rfl⟩
theorem m593_score : MF 593 "score" 590 := ⟨k593, fun P => by kernel_rfl, fun P => by kernel_rfl, fun P => by kernel_rfl⟩
theorem k763 : Cls 763 := ⟨fun P n => by kernel_rfl, fun P => by kernel_rfl, fun P => by kernel_rfl, fun P => by kernel_rfl⟩
theorem a763a : FF 763 "a" := ⟨k763, fun P => by kernel_rfl, fun P => by kernel_rfl⟩
theorem a763b : FF 763 "b" := ⟨k763, fun P => by kernel_rfl, fun P => by kernel_rfl⟩
theorem m763___init__ : MF 763 "__init__" 609 := ⟨k763, fun P => by kernel_rfl, fun P => by kernel_rfl, fun P => by kernel_rfl⟩
theorem m763_replace : MF 763 "replace" 711 := ⟨k763, fun P => by kernel_rfl, fun P => by kernel_rfl, fun P => by kernel_rfl⟩
theorem m763_is_active : MF 763 "is_active" 718 := ⟨k763, fun P => by kernel_rfl, fun P => by kernel_rfl, fun P => by kernel_rfl⟩
theorem m763_skip_to : MF 763 "skip_to" 725 := ⟨k763, fun P => by kernel_rfl, fun P => by kernel_rfl, fun P => by kernel_rfl⟩
theorem m763_id : MF 763 "id" 732 := ⟨k763, fun P => by kernel_rfl, fun P => by kernel_rfl, fun P => by kernel_rfl⟩
theorem m763_next : MF 763 "next" 739 := ⟨k763, fun P => by kernel_rfl, fun P => by kernel_rfl, fun P => by kernel_rfl⟩
theorem m763_weight : MF 763 "weight" 746 := ⟨k763, fun P => by kernel_rfl, fun P => by kernel_rfl, fun P => by kernel_rfl⟩
theorem m763_score : MF 763 "score" 753 := ⟨k763, fun P => by kernel_rfl, fun P => by kernel_rfl, fun P => by kernel_rfl⟩
theorem k855 : Cls 855 := ⟨fun P n => by kernel_rfl, fun P => by kernel_rfl, fun P => by kernel_rfl, fun P => by kernel_rfl⟩
theorem a855a : FF 855 "a" := ⟨k855, fun P => by kernel_rfl, fun P => by kernel_rfl⟩
theorem a855b : FF 855 "b" := ⟨k855, fun P => by kernel_rfl, fun P => by kernel_rfl⟩
theorem m855___init__ : MF 855 "__init__" 781 := ⟨k855, fun P => by kernel_rfl, fun P => by kernel_rfl, fun P => by kernel_rfl⟩
theorem m855__find_first : MF 855 "_find_first" 795 := ⟨k855, fun P => by kernel_rfl, fun P => by kernel_rfl, fun P => by kernel_rfl⟩
theorem m855_replace : MF 855 "replace" 803 := ⟨k855, fun P => by kernel_rfl, fun P => by kernel_rfl, fun P => by kernel_rfl⟩
theorem m855_is_active : MF 855 "is_active" 810 := ⟨k855, fun P => by kernel_rfl, fun P => by kernel_rfl, fun P => by kernel_rfl⟩
theorem m855__find_next : MF 855 "_find_next" 817 := ⟨k855, fun P => by kernel_rfl, fun P => by kernel_rfl, fun P => by kernel_rfl⟩
theorem m855_id : MF 855 "id" 824 := ⟨k855, fun P => by kernel_rfl, fun P => by kernel_rfl, fun P => by kernel_rfl⟩
theorem m855_skip_to : MF 855 "skip_to" 838 := ⟨k855, fun P => by kernel_rfl, fun P => by kernel_rfl, fun P => by kernel_rfl⟩
theorem m855_next : MF 855 "next" 852 := ⟨k855, fun P => by kernel_rfl, fun P => by kernel_rfl, fun P => by kernel_rfl⟩
theorem m855_weight : MF 855 "weight" 684 := ⟨k855, fun P => by kernel_rfl, fun P => by kernel_rfl, fun P => by kernel_rfl⟩
theorem m855_score : MF 855 "score" 691 := ⟨k855, fun P => by kernel_rfl, fun P => by kernel_rfl, fun P => by kernel_rfl⟩
theorem k982 : Cls 982 := ⟨fun P n => by kernel_rfl, fun P => by kernel_rfl, fun P => by kernel_rfl, fun P => by kernel_rfl⟩
theorem a982a : FF 982 "a" := ⟨k982, fun P => by kernel_rfl, fun P => by kernel_rfl⟩
theorem a982b : FF 982 "b" := ⟨k982, fun P => by kernel_rfl, fun P => by kernel_rfl⟩
theorem m982___init__ : MF 982 "__init__" 873 := ⟨k982, fun P => by kernel_rfl, fun P => by kernel_rfl, fun P => by kernel_rfl⟩
theorem m982__find_first : MF 982 "_find_first" 887 := ⟨k982, fun P => by kernel_rfl, fun P => by kernel_rfl, fun P => by kernel_rfl⟩
theorem m982_is_active : MF 982 "is_active" 894 := ⟨k982, fun P => by kernel_rfl, fun P => by kernel_rfl, fun P => by kernel_rfl⟩
theorem m982__find_next : MF 982 "_find_next" 901 := ⟨k982, fun P => by kernel_rfl, fun P => by kernel_rfl, fun P => by kernel_rfl⟩
theorem m982_replace : MF 982 "replace" 916 := ⟨k982, fun P => by kernel_rfl, fun P => by kernel_rfl, fun P => by kernel_rfl⟩
theorem m982_id : MF 982 "id" 944 := ⟨k982, fun P => by kernel_rfl, fun P => by kernel_rfl, fun P => by kernel_rfl⟩
theorem m982_next : MF 982 "next" 951 := ⟨k982, fun P => by kernel_rfl, fun P => by kernel_rfl, fun P => by kernel_rfl⟩
theorem m982_skip_to : MF 982 "skip_to" 958 := ⟨k982, fun P => by kernel_rfl, fun P => by kernel_rfl, fun P => by kernel_rfl⟩
theorem m982_weight : MF 982 "weight" 965 := ⟨k982, fun P => by kernel_rfl, fun P => by kernel_rfl, fun P => by kernel_rfl⟩
theorem m982_score : MF 982 "score" 972 := ⟨k982, fun P => by kernel_rfl, fun P => by kernel_rfl, fun P => by kernel_rfl⟩
theorem k1170 : Cls 1170 := ⟨fun P n => by kernel_rfl, fun P => by kernel_rfl, fun P => by kernel_rfl, fun P => by kernel_rfl⟩
theorem a1170_maxweight : FF 1170 "_maxweight" := ⟨k1170, fun P => by kernel_rfl, fun P => by kernel_rfl⟩
theorem m1170___init__ : MF 1170 "__init__" 1139 := ⟨k1170, fun P => by kernel_rfl, fun P => by kernel_rfl, fun P => by kernel_rfl⟩
theorem m1170_score : MF 1170 "score" 1153 := ⟨k1170, fun P => by kernel_rfl, fun P => by kernel_rfl, fun P => by kernel_rfl⟩
theorem a763_id : ∀ P, findIn (Hd.KK P) (.ref 763) "_id" = some (some .none) := fun P => by kernel_rfl
theorem t763_id : ∀ P, takerIn (Hd.KK P) 763 "_id" = some none := fun P => by kernel_rfl
theorem f309 (P) : (Hd.KK P).lookup 309 = some (Hd.fnO (Hd.subOf Hd.pw 7 0) ("ListMatcher.__init__") [] (.ref 302) (.str ("whoosh.matching.mcore") 194) (.ref 308) .none) := by kernel_rfl
theorem c309 (P) : codeIn (Hd.KK P) (.ref 308) "ListMatcher.__init__" = true := by kernel_rfl
theorem d309 (P) : (Hd.KK P).lookup 302 = some (⟨.type "tuple", none, .seq (List.toArray [.none, .none, .none, .none, .int 0 508, .none, .none, .none]) 0, #[]⟩) := by kernel_rfl
theorem f316 (P) : (Hd.KK P).lookup 316 = some (Hd.fnO (Hd.subOf Hd.pw 7 1) ("ListMatcher.is_active") [] .none (.str ("whoosh.matching.mcore") 194) (.ref 315) .none) := by kernel_rfl
theorem c316 (P) : codeIn (Hd.KK P) (.ref 315) "ListMatcher.is_active" = true := by kernel_rfl
theorem f330 (P) : (Hd.KK P).lookup 330 = some (Hd.fnO (Hd.subOf Hd.pw 7 3) ("ListMatcher.skip_to") [] .none (.str ("whoosh.matching.mcore") 194) (.ref 329) .none) := by kernel_rfl
theorem c330 (P) : codeIn (Hd.KK P) (.ref 329) "ListMatcher.skip_to" = true := by kernel_rfl
theorem f387 (P) : (Hd.KK P).lookup 387 = some (Hd.fnO (Hd.subOf Hd.pw 7 11) ("ListMatcher.id") [] .none (.str ("whoosh.matching.mcore") 194) (.ref 386) .none) := by kernel_rfl
theorem c387 (P) : codeIn (Hd.KK P) (.ref 386) "ListMatcher.id" = true := by kernel_rfl
theorem f415 (P) : (Hd.KK P).lookup 415 = some (Hd.fnO (Hd.subOf Hd.pw 7 15) ("ListMatcher.next") [] .none (.str ("whoosh.matching.mcore") 194) (.ref 414) .none) := by kernel_rfl
theorem c415 (P) : codeIn (Hd.KK P) (.ref 414) "ListMatcher.next" = true := by kernel_rfl
theorem f422 (P) : (Hd.KK P).lookup 422 = some (Hd.fnO (Hd.subOf Hd.pw 7 16) ("ListMatcher.weight") [] .none (.str ("whoosh.matching.mcore") 194) (.ref 421) .none) := by kernel_rfl
theorem c422 (P) : codeIn (Hd.KK P) (.ref 421) "ListMatcher.weight" = true := by kernel_rfl
theorem f470 (P) : (Hd.KK P).lookup 470 = some (Hd.fnO (Hd.subOf Hd.pw 9 0) ("MultiMatcher.__init__") [] (.ref 463) (.str ("whoosh.matching.wrappers") 682) (.ref 469) .none) := by kernel_rfl
theorem c470 (P) : codeIn (Hd.KK P) (.ref 469) "MultiMatcher.__init__" = true := by kernel_rfl
theorem d470 (P) : (Hd.KK P).lookup 463 = some (⟨.type "tuple", none, .seq (List.toArray [.none, .int 0 696]) 0, #[]⟩) := by kernel_rfl
theorem f477 (P) : (Hd.KK P).lookup 477 = some (Hd.fnO (Hd.subOf Hd.pw 9 1) ("MultiMatcher.is_active") [] .none (.str ("whoosh.matching.wrappers") 682) (.ref 476) .none) := by kernel_rfl
theorem c477 (P) : codeIn (Hd.KK P) (.ref 476) "MultiMatcher.is_active" = true := by kernel_rfl
theorem f498 (P) : (Hd.KK P).lookup 498 = some (Hd.fnO (Hd.subOf Hd.pw 9 4) ("MultiMatcher._next_matcher") [] .none (.str ("whoosh.matching.wrappers") 682) (.ref 497) .none) := by kernel_rfl
theorem c498 (P) : codeIn (Hd.KK P) (.ref 497) "MultiMatcher._next_matcher" = true := by kernel_rfl
theorem f520 (P) : (Hd.KK P).lookup 520 = some (Hd.fnO (Hd.subOf Hd.pw 9 7) ("MultiMatcher.replace") [] (.ref 513) (.str ("whoosh.matching.wrappers") 682) (.ref 519) .none) := by kernel_rfl
theorem c520 (P) : codeIn (Hd.KK P) (.ref 519) "MultiMatcher.replace" = true := by kernel_rfl
theorem d520 (P) : (Hd.KK P).lookup 513 = some (⟨.type "tuple", none, .seq (List.toArray [.int 0 751]) 0, #[]⟩) := by kernel_rfl
theorem f527 (P) : (Hd.KK P).lookup 527 = some (Hd.fnO (Hd.subOf Hd.pw 9 8) ("MultiMatcher.id") [] .none (.str ("whoosh.matching.wrappers") 682) (.ref 526) .none) := by kernel_rfl
theorem c527 (P) : codeIn (Hd.KK P) (.ref 526) "MultiMatcher.id" = true := by kernel_rfl
theorem f548 (P) : (Hd.KK P).lookup 548 = some (Hd.fnO (Hd.subOf Hd.pw 9 11) ("MultiMatcher.next") [] .none (.str ("whoosh.matching.wrappers") 682) (.ref 547) .none) := by kernel_rfl
theorem c548 (P) : codeIn (Hd.KK P) (.ref 547) "MultiMatcher.next" = true := by kernel_rfl
theorem f555 (P) : (Hd.KK P).lookup 555 = some (Hd.fnO (Hd.subOf Hd.pw 9 12) ("MultiMatcher.skip_to") [] .none (.str ("whoosh.matching.wrappers") 682) (.ref 554) .none) := by kernel_rfl
theorem c555 (P) : codeIn (Hd.KK P) (.ref 554) "MultiMatcher.skip_to" = true := by kernel_rfl
theorem f583 (P) : (Hd.KK P).lookup 583 = some (Hd.fnO (Hd.subOf Hd.pw 9 16) ("MultiMatcher.weight") [] .none (.str ("whoosh.matching.wrappers") 682) (.ref 582) .none) := by kernel_rfl
theorem c583 (P) : codeIn (Hd.KK P) (.ref 582) "MultiMatcher.weight" = true := by kernel_rfl
theorem f590 (P) : (Hd.KK P).lookup 590 = some (Hd.fnO (Hd.subOf Hd.pw 9 17) ("MultiMatcher.score") [] .none (.str ("whoosh.matching.wrappers") 682) (.ref 589) .none) := by kernel_rfl
theorem c590 (P) : codeIn (Hd.KK P) (.ref 589) "MultiMatcher.score" = true := by kernel_rfl
theorem f609 (P) : (Hd.KK P).lookup 609 = some (Hd.fnO (Hd.subOf Hd.pw 11 0) ("BiMatcher.__init__") [] .none (.str ("whoosh.matching.binary") 846) (.ref 608) .none) := by kernel_rfl
theorem c609 (P) : codeIn (Hd.KK P) (.ref 608) "BiMatcher.__init__" = true := by kernel_rfl
theorem f684 (P) : (Hd.KK P).lookup 684 = some (Hd.fnO (Hd.subOf Hd.pw 12 2) ("AdditiveBiMatcher.weight") [] .none (.str ("whoosh.matching.binary") 846) (.ref 683) .none) := by kernel_rfl
theorem c684 (P) : codeIn (Hd.KK P) (.ref 683) "AdditiveBiMatcher.weight" = true := by kernel_rfl
theorem f691 (P) : (Hd.KK P).lookup 691 = some (Hd.fnO (Hd.subOf Hd.pw 12 3) ("AdditiveBiMatcher.score") [] .none (.str ("whoosh.matching.binary") 846) (.ref 690) .none) := by kernel_rfl
theorem c691 (P) : codeIn (Hd.KK P) (.ref 690) "AdditiveBiMatcher.score" = true := by kernel_rfl
theorem f711 (P) : (Hd.KK P).lookup 711 = some (Hd.fnO (Hd.subOf Hd.pw 13 1) ("UnionMatcher.replace") [] (.ref 704) (.str ("whoosh.matching.binary") 846) (.ref 710) .none) := by kernel_rfl
theorem c711 (P) : codeIn (Hd.KK P) (.ref 710) "UnionMatcher.replace" = true := by kernel_rfl
theorem d711 (P) : (Hd.KK P).lookup 704 = some (⟨.type "tuple", none, .seq (List.toArray [.int 0 979]) 0, #[]⟩) := by kernel_rfl
theorem f718 (P) : (Hd.KK P).lookup 718 = some (Hd.fnO (Hd.subOf Hd.pw 13 2) ("UnionMatcher.is_active") [] .none (.str ("whoosh.matching.binary") 846) (.ref 717) .none) := by kernel_rfl
theorem c718 (P) : codeIn (Hd.KK P) (.ref 717) "UnionMatcher.is_active" = true := by kernel_rfl
theorem f725 (P) : (Hd.KK P).lookup 725 = some (Hd.fnO (Hd.subOf Hd.pw 13 3) ("UnionMatcher.skip_to") [] .none (.str ("whoosh.matching.binary") 846) (.ref 724) .none) := by kernel_rfl
theorem c725 (P) : codeIn (Hd.KK P) (.ref 724) "UnionMatcher.skip_to" = true := by kernel_rfl
theorem f732 (P) : (Hd.KK P).lookup 732 = some (Hd.fnO (Hd.subOf Hd.pw 13 4) ("UnionMatcher.id") [] .none (.str ("whoosh.matching.binary") 846) (.ref 731) .none) := by kernel_rfl
theorem c732 (P) : codeIn (Hd.KK P) (.ref 731) "UnionMatcher.id" = true := by kernel_rfl
theorem f739 (P) : (Hd.KK P).lookup 739 = some (Hd.fnO (Hd.subOf Hd.pw 13 5) ("UnionMatcher.next") [] .none (.str ("whoosh.matching.binary") 846) (.ref 738) .none) := by kernel_rfl
theorem c739 (P) : codeIn (Hd.KK P) (.ref 738) "UnionMatcher.next" = true := by kernel_rfl
theorem f746 (P) : (Hd.KK P).lookup 746 = some (Hd.fnO (Hd.subOf Hd.pw 13 6) ("UnionMatcher.weight") [] .none (.str ("whoosh.matching.binary") 846) (.ref 745) .none) := by kernel_rfl
theorem c746 (P) : codeIn (Hd.KK P) (.ref 745) "UnionMatcher.weight" = true := by kernel_rfl
theorem f753 (P) : (Hd.KK P).lookup 753 = some (Hd.fnO (Hd.subOf Hd.pw 13 7) ("UnionMatcher.score") [] .none (.str ("whoosh.matching.binary") 846) (.ref 752) .none) := by kernel_rfl
theorem c753 (P) : codeIn (Hd.KK P) (.ref 752) "UnionMatcher.score" = true := by kernel_rfl
theorem f781 (P) : (Hd.KK P).lookup 781 = some (Hd.fnO (Hd.subOf Hd.pw 14 0) ("IntersectionMatcher.__init__") [(("__class__"), 769)] .none (.str ("whoosh.matching.binary") 846) (.ref 780) (.ref 774)) := by kernel_rfl
theorem c781 (P) : codeIn (Hd.KK P) (.ref 780) "IntersectionMatcher.__init__" = true := by kernel_rfl
theorem f795 (P) : (Hd.KK P).lookup 795 = some (Hd.fnO (Hd.subOf Hd.pw 14 2) ("IntersectionMatcher._find_first") [] .none (.str ("whoosh.matching.binary") 846) (.ref 794) .none) := by kernel_rfl
theorem c795 (P) : codeIn (Hd.KK P) (.ref 794) "IntersectionMatcher._find_first" = true := by kernel_rfl
theorem f803 (P) : (Hd.KK P).lookup 803 = some (Hd.fnO (Hd.subOf Hd.pw 14 3) ("IntersectionMatcher.replace") [] (.ref 796) (.str ("whoosh.matching.binary") 846) (.ref 802) .none) := by kernel_rfl
theorem c803 (P) : codeIn (Hd.KK P) (.ref 802) "IntersectionMatcher.replace" = true := by kernel_rfl
theorem d803 (P) : (Hd.KK P).lookup 796 = some (⟨.type "tuple", none, .seq (List.toArray [.int 0 1107]) 0, #[]⟩) := by kernel_rfl
theorem f810 (P) : (Hd.KK P).lookup 810 = some (Hd.fnO (Hd.subOf Hd.pw 14 4) ("IntersectionMatcher.is_active") [] .none (.str ("whoosh.matching.binary") 846) (.ref 809) .none) := by kernel_rfl
theorem c810 (P) : codeIn (Hd.KK P) (.ref 809) "IntersectionMatcher.is_active" = true := by kernel_rfl
theorem f817 (P) : (Hd.KK P).lookup 817 = some (Hd.fnO (Hd.subOf Hd.pw 14 5) ("IntersectionMatcher._find_next") [] .none (.str ("whoosh.matching.binary") 846) (.ref 816) .none) := by kernel_rfl
theorem c817 (P) : codeIn (Hd.KK P) (.ref 816) "IntersectionMatcher._find_next" = true := by kernel_rfl
theorem f824 (P) : (Hd.KK P).lookup 824 = some (Hd.fnO (Hd.subOf Hd.pw 14 6) ("IntersectionMatcher.id") [] .none (.str ("whoosh.matching.binary") 846) (.ref 823) .none) := by kernel_rfl
theorem c824 (P) : codeIn (Hd.KK P) (.ref 823) "IntersectionMatcher.id" = true := by kernel_rfl
theorem f838 (P) : (Hd.KK P).lookup 838 = some (Hd.fnO (Hd.subOf Hd.pw 14 8) ("IntersectionMatcher.skip_to") [] .none (.str ("whoosh.matching.binary") 846) (.ref 837) .none) := by kernel_rfl
theorem c838 (P) : codeIn (Hd.KK P) (.ref 837) "IntersectionMatcher.skip_to" = true := by kernel_rfl
theorem f852 (P) : (Hd.KK P).lookup 852 = some (Hd.fnO (Hd.subOf Hd.pw 14 10) ("IntersectionMatcher.next") [] .none (.str ("whoosh.matching.binary") 846) (.ref 851) .none) := by kernel_rfl
theorem c852 (P) : codeIn (Hd.KK P) (.ref 851) "IntersectionMatcher.next" = true := by kernel_rfl
theorem f873 (P) : (Hd.KK P).lookup 873 = some (Hd.fnO (Hd.subOf Hd.pw 15 0) ("AndNotMatcher.__init__") [(("__class__"), 861)] .none (.str ("whoosh.matching.binary") 846) (.ref 872) (.ref 866)) := by kernel_rfl
theorem c873 (P) : codeIn (Hd.KK P) (.ref 872) "AndNotMatcher.__init__" = true := by kernel_rfl
theorem f887 (P) : (Hd.KK P).lookup 887 = some (Hd.fnO (Hd.subOf Hd.pw 15 2) ("AndNotMatcher._find_first") [] .none (.str ("whoosh.matching.binary") 846) (.ref 886) .none) := by kernel_rfl
theorem c887 (P) : codeIn (Hd.KK P) (.ref 886) "AndNotMatcher._find_first" = true := by kernel_rfl
theorem f894 (P) : (Hd.KK P).lookup 894 = some (Hd.fnO (Hd.subOf Hd.pw 15 3) ("AndNotMatcher.is_active") [] .none (.str ("whoosh.matching.binary") 846) (.ref 893) .none) := by kernel_rfl
theorem c894 (P) : codeIn (Hd.KK P) (.ref 893) "AndNotMatcher.is_active" = true := by kernel_rfl
theorem f901 (P) : (Hd.KK P).lookup 901 = some (Hd.fnO (Hd.subOf Hd.pw 15 4) ("AndNotMatcher._find_next") [] .none (.str ("whoosh.matching.binary") 846) (.ref 900) .none) := by kernel_rfl
theorem c901 (P) : codeIn (Hd.KK P) (.ref 900) "AndNotMatcher._find_next" = true := by kernel_rfl
theorem f916 (P) : (Hd.KK P).lookup 916 = some (Hd.fnO (Hd.subOf Hd.pw 15 6) ("AndNotMatcher.replace") [] (.ref 909) (.str ("whoosh.matching.binary") 846) (.ref 915) .none) := by kernel_rfl
theorem c916 (P) : codeIn (Hd.KK P) (.ref 915) "AndNotMatcher.replace" = true := by kernel_rfl
theorem d916 (P) : (Hd.KK P).lookup 909 = some (⟨.type "tuple", none, .seq (List.toArray [.int 0 1254]) 0, #[]⟩) := by kernel_rfl
theorem f944 (P) : (Hd.KK P).lookup 944 = some (Hd.fnO (Hd.subOf Hd.pw 15 10) ("AndNotMatcher.id") [] .none (.str ("whoosh.matching.binary") 846) (.ref 943) .none) := by kernel_rfl
theorem c944 (P) : codeIn (Hd.KK P) (.ref 943) "AndNotMatcher.id" = true := by kernel_rfl
theorem f951 (P) : (Hd.KK P).lookup 951 = some (Hd.fnO (Hd.subOf Hd.pw 15 11) ("AndNotMatcher.next") [] .none (.str ("whoosh.matching.binary") 846) (.ref 950) .none) := by kernel_rfl
theorem c951 (P) : codeIn (Hd.KK P) (.ref 950) "AndNotMatcher.next" = true := by kernel_rfl
theorem f958 (P) : (Hd.KK P).lookup 958 = some (Hd.fnO (Hd.subOf Hd.pw 15 12) ("AndNotMatcher.skip_to") [] .none (.str ("whoosh.matching.binary") 846) (.ref 957) .none) := by kernel_rfl
theorem c958 (P) : codeIn (Hd.KK P) (.ref 957) "AndNotMatcher.skip_to" = true := by kernel_rfl
theorem f965 (P) : (Hd.KK P).lookup 965 = some (Hd.fnO (Hd.subOf Hd.pw 15 13) ("AndNotMatcher.weight") [] .none (.str ("whoosh.matching.binary") 846) (.ref 964) .none) := by kernel_rfl
theorem c965 (P) : codeIn (Hd.KK P) (.ref 964) "AndNotMatcher.weight" = true := by kernel_rfl
theorem f972 (P) : (Hd.KK P).lookup 972 = some (Hd.fnO (Hd.subOf Hd.pw 15 14) ("AndNotMatcher.score") [] .none (.str ("whoosh.matching.binary") 846) (.ref 971) .none) := by kernel_rfl
theorem c972 (P) : codeIn (Hd.KK P) (.ref 971) "AndNotMatcher.score" = true := by kernel_rfl
theorem f1139 (P) : (Hd.KK P).lookup 1139 = some (Hd.fnO (Hd.subOf Hd.pw 19 0) ("WeightScorer.__init__") [] .none (.str ("whoosh.scoring") 1457) (.ref 1138) .none) := by kernel_rfl
theorem c1139 (P) : codeIn (Hd.KK P) (.ref 1138) "WeightScorer.__init__" = true := by kernel_rfl
theorem f1153 (P) : (Hd.KK P).lookup 1153 = some (Hd.fnO (Hd.subOf Hd.pw 19 2) ("WeightScorer.score") [] .none (.str ("whoosh.scoring") 1457) (.ref 1152) .none) := by kernel_rfl
theorem c1153 (P) : codeIn (Hd.KK P) (.ref 1152) "WeightScorer.score" = true := by kernel_rfl
theorem f1179 (P) : (Hd.KK P).lookup 1179 = some (Hd.fnO (Hd.stOf Hd.pw 21) ("_law_text") [] .none (.str ("law_ah0049_01") 1564) (.ref 1178) .none) := by kernel_rfl
theorem c1179 (P) : codeIn (Hd.KK P) (.ref 1178) "_law_text" = true := by kernel_rfl
theorem f1186 (P) : (Hd.KK P).lookup 1186 = some (Hd.fnO (Hd.stOf Hd.pw 22) ("_law_part") [] .none (.str ("law_ah0049_01") 1564) (.ref 1185) .none) := by kernel_rfl
theorem c1186 (P) : codeIn (Hd.KK P) (.ref 1185) "_law_part" = true := by kernel_rfl
theorem f1193 (P) : (Hd.KK P).lookup 1193 = some (Hd.fnO (Hd.stOf Hd.pw 23) ("_law_fits") [] .none (.str ("law_ah0049_01") 1564) (.ref 1192) .none) := by kernel_rfl
theorem c1193 (P) : codeIn (Hd.KK P) (.ref 1192) "_law_fits" = true := by kernel_rfl
theorem f1200 (P) : (Hd.KK P).lookup 1200 = some (Hd.fnO (Hd.stOf Hd.pw 24) ("_law_weight") [] .none (.str ("law_ah0049_01") 1564) (.ref 1199) .none) := by kernel_rfl
theorem c1200 (P) : codeIn (Hd.KK P) (.ref 1199) "_law_weight" = true := by kernel_rfl
theorem f1207 (P) : (Hd.KK P).lookup 1207 = some (Hd.fnO (Hd.stOf Hd.pw 25) ("_law_ways") [] .none (.str ("law_ah0049_01") 1564) (.ref 1206) .none) := by kernel_rfl
theorem c1207 (P) : codeIn (Hd.KK P) (.ref 1206) "_law_ways" = true := by kernel_rfl
theorem f1214 (P) : (Hd.KK P).lookup 1214 = some (Hd.fnO (Hd.stOf Hd.pw 26) ("_law_sum") [] .none (.str ("law_ah0049_01") 1564) (.ref 1213) .none) := by kernel_rfl
theorem c1214 (P) : codeIn (Hd.KK P) (.ref 1213) "_law_sum" = true := by kernel_rfl
theorem f1219 (P) : (Hd.KK P).lookup 1219 = some (Hd.fnO (Hd.stOf Hd.pw 27) ("_law_list") [] .none (.str ("law_ah0049_01") 1564) (.ref 1218) .none) := by kernel_rfl
theorem c1219 (P) : codeIn (Hd.KK P) (.ref 1218) "_law_list" = true := by kernel_rfl
theorem f1224 (P) : (Hd.KK P).lookup 1224 = some (Hd.fnO (Hd.stOf Hd.pw 28) ("_law_here") [] .none (.str ("law_ah0049_01") 1564) (.ref 1223) .none) := by kernel_rfl
theorem c1224 (P) : codeIn (Hd.KK P) (.ref 1223) "_law_here" = true := by kernel_rfl
theorem f1231 (P) : (Hd.KK P).lookup 1231 = some (Hd.fnO (Hd.stOf Hd.pw 29) ("_law_tree") [] .none (.str ("law_ah0049_01") 1564) (.ref 1230) .none) := by kernel_rfl
theorem c1231 (P) : codeIn (Hd.KK P) (.ref 1230) "_law_tree" = true := by kernel_rfl
theorem g_law_text : (∀ P, nsIn (Hd.KK P) mainGlobals "_law_text" = some (some (.ref 1179))) ∧ ∀ P, keepIn (Hd.KK P) (.ref 1179) = true := ⟨fun P => by kernel_rfl, fun P => by kernel_rfl⟩
theorem g_law_part : (∀ P, nsIn (Hd.KK P) mainGlobals "_law_part" = some (some (.ref 1186))) ∧ ∀ P, keepIn (Hd.KK P) (.ref 1186) = true := ⟨fun P => by kernel_rfl, fun P => by kernel_rfl⟩
theorem g_law_fits : (∀ P, nsIn (Hd.KK P) mainGlobals "_law_fits" = some (some (.ref 1193))) ∧ ∀ P, keepIn (Hd.KK P) (.ref 1193) = true := ⟨fun P => by kernel_rfl, fun P => by kernel_rfl⟩
theorem g_law_weight : (∀ P, nsIn (Hd.KK P) mainGlobals "_law_weight" = some (some (.ref 1200))) ∧ ∀ P, keepIn (Hd.KK P) (.ref 1200) = true := ⟨fun P => by kernel_rfl, fun P => by kernel_rfl⟩
theorem g_law_ways : (∀ P, nsIn (Hd.KK P) mainGlobals "_law_ways" = some (some (.ref 1207))) ∧ ∀ P, keepIn (Hd.KK P) (.ref 1207) = true := ⟨fun P => by kernel_rfl, fun P => by kernel_rfl⟩
theorem g_law_sum : (∀ P, nsIn (Hd.KK P) mainGlobals "_law_sum" = some (some (.ref 1214))) ∧ ∀ P, keepIn (Hd.KK P) (.ref 1214) = true := ⟨fun P => by kernel_rfl, fun P => by kernel_rfl⟩
theorem g_law_list : (∀ P, nsIn (Hd.KK P) mainGlobals "_law_list" = some (some (.ref 1219))) ∧ ∀ P, keepIn (Hd.KK P) (.ref 1219) = true := ⟨fun P => by kernel_rfl, fun P => by kernel_rfl⟩
theorem g_law_here : (∀ P, nsIn (Hd.KK P) mainGlobals "_law_here" = some (some (.ref 1224))) ∧ ∀ P, keepIn (Hd.KK P) (.ref 1224) = true := ⟨fun P => by kernel_rfl, fun P => by kernel_rfl⟩
theorem g_law_tree : (∀ P, nsIn (Hd.KK P) mainGlobals "_law_tree" = some (some (.ref 1231))) ∧ ∀ P, keepIn (Hd.KK P) (.ref 1231) = true := ⟨fun P => by kernel_rfl, fun P => by kernel_rfl⟩
theorem g_ListMatcher : (∀ P, nsIn (Hd.KK P) mainGlobals "ListMatcher" = some (some (.ref 453))) ∧ ∀ P, keepIn (Hd.KK P) (.ref 453) = true := ⟨fun P => by kernel_rfl, fun P => by kernel_rfl⟩
theorem n_ListMatcher : ∀ P, makesIn (Hd.KK P) 453 = true := fun P => by kernel_rfl
theorem i_ListMatcher : (∀ P, findIn (Hd.KK P) (.ref 453) "__init__" = some (some (.ref 309))) ∧ ∀ P, typeIn (Hd.KK P) (.ref 309) = some (.type "function") := ⟨fun P => by kernel_rfl, fun P => by kernel_rfl⟩
theorem g_MultiMatcher : (∀ P, nsIn (Hd.KK P) mainGlobals "MultiMatcher" = some (some (.ref 593))) ∧ ∀ P, keepIn (Hd.KK P) (.ref 593) = true := ⟨fun P => by kernel_rfl, fun P => by kernel_rfl⟩
theorem n_MultiMatcher : ∀ P, makesIn (Hd.KK P) 593 = true := fun P => by kernel_rfl
theorem i_MultiMatcher : (∀ P, findIn (Hd.KK P) (.ref 593) "__init__" = some (some (.ref 470))) ∧ ∀ P, typeIn (Hd.KK P) (.ref 470) = some (.type "function") := ⟨fun P => by kernel_rfl, fun P => by kernel_rfl⟩
theorem g_UnionMatcher : (∀ P, nsIn (Hd.KK P) mainGlobals "UnionMatcher" = some (some (.ref 763))) ∧ ∀ P, keepIn (Hd.KK P) (.ref 763) = true := ⟨fun P => by kernel_rfl, fun P => by kernel_rfl⟩
theorem n_UnionMatcher : ∀ P, makesIn (Hd.KK P) 763 = true := fun P => by kernel_rfl
theorem i_UnionMatcher : (∀ P, findIn (Hd.KK P) (.ref 763) "__init__" = some (some (.ref 609))) ∧ ∀ P, typeIn (Hd.KK P) (.ref 609) = some (.type "function") := ⟨fun P => by kernel_rfl, fun P => by kernel_rfl⟩
theorem g_IntersectionMatcher : (∀ P, nsIn (Hd.KK P) mainGlobals "IntersectionMatcher" = some (some (.ref 855))) ∧ ∀ P, keepIn (Hd.KK P) (.ref 855) = true := ⟨fun P => by kernel_rfl, fun P => by kernel_rfl⟩
theorem n_IntersectionMatcher : ∀ P, makesIn (Hd.KK P) 855 = true := fun P => by kernel_rfl
theorem i_IntersectionMatcher : (∀ P, findIn (Hd.KK P) (.ref 855) "__init__" = some (some (.ref 781))) ∧ ∀ P, typeIn (Hd.KK P) (.ref 781) = some (.type "function") := ⟨fun P => by kernel_rfl, fun P => by kernel_rfl⟩
theorem g_AndNotMatcher : (∀ P, nsIn (Hd.KK P) mainGlobals "AndNotMatcher" = some (some (.ref 982))) ∧ ∀ P, keepIn (Hd.KK P) (.ref 982) = true := ⟨fun P => by kernel_rfl, fun P => by kernel_rfl⟩
theorem n_AndNotMatcher : ∀ P, makesIn (Hd.KK P) 982 = true := fun P => by kernel_rfl
theorem i_AndNotMatcher : (∀ P, findIn (Hd.KK P) (.ref 982) "__init__" = some (some (.ref 873))) ∧ ∀ P, typeIn (Hd.KK P) (.ref 873) = some (.type "function") := ⟨fun P => by kernel_rfl, fun P => by kernel_rfl⟩
theorem g_WeightScorer : (∀ P, nsIn (Hd.KK P) mainGlobals "WeightScorer" = some (some (.ref 1170))) ∧ ∀ P, keepIn (Hd.KK P) (.ref 1170) = true := ⟨fun P => by kernel_rfl, fun P => by kernel_rfl⟩
theorem n_WeightScorer : ∀ P, makesIn (Hd.KK P) 1170 = true := fun P => by kernel_rfl
theorem i_WeightScorer : (∀ P, findIn (Hd.KK P) (.ref 1170) "__init__" = some (some (.ref 1139))) ∧ ∀ P, typeIn (Hd.KK P) (.ref 1139) = some (.type "function") := ⟨fun P => by kernel_rfl, fun P => by kernel_rfl⟩
theorem b_len : (∀ P, nsIn (Hd.KK P) mainGlobals "len" = some none) ∧ bootBuiltins "len" = some (.builtin "len") := ⟨fun P => by kernel_rfl, rfl⟩
theorem b_min : (∀ P, nsIn (Hd.KK P) mainGlobals "min" = some none) ∧ bootBuiltins "min" = some (.builtin "min") := ⟨fun P => by kernel_rfl, rfl⟩
theorem b_max : (∀ P, nsIn (Hd.KK P) mainGlobals "max" = some none) ∧ bootBuiltins "max" = some (.builtin "max") := ⟨fun P => by kernel_rfl, rfl⟩
theorem b_range : (∀ P, nsIn (Hd.KK P) mainGlobals "range" = some none) ∧ bootBuiltins "range" = some (.type "range") := ⟨fun P => by kernel_rfl, rfl⟩
theorem b_sorted : (∀ P, nsIn (Hd.KK P) mainGlobals "sorted" = some none) ∧ bootBuiltins "sorted" = some (.builtin "sorted") := ⟨fun P => by kernel_rfl, rfl⟩
theorem b_super : (∀ P, nsIn (Hd.KK P) mainGlobals "super" = some none) ∧ bootBuiltins "super" = some (.type "super") := ⟨fun P => by kernel_rfl, rfl⟩
noncomputable abbrev S (x : PySem.Str) : PySem.Str := x
noncomputable def Has (σ : AH) (x : Addr) (name : PySem.Str) (f : Addr) : Prop := ∃ C fs, σ x = some (.inst C fs) ∧ fs.lookup name = none ∧ MF C name f
noncomputable def Runs (b : Nat) (σ : AH) (f : Addr) (args : List Value) (kw : List (PySem.Str × Value)) (Q : Value → AH → Prop) : Prop :=
  ∀ (c : Cx) m, Room c.A b → XC c m σ (.call (.ref f) ⟨args, kw⟩) fun v m' σ' => m' = m ∧ Q v σ'
section
variable {α β : Type} {c : Cx} {m : Lc} {σ : AH} {env : Env}
theorem Room.mono {A : Around} {a b : Nat} (h : Room A a) (l : b ≤ a) : Room A b := ⟨by have := h.1; omega, by have := h.2.1; omega, h.2.2⟩
theorem Runs.mono {a b : Nat} {f : Addr} {args : List Value} {kw : List (PySem.Str × Value)} {Q Q' : Value → AH → Prop} (h : Runs b σ f args kw Q) (l : b ≤ a) (k : ∀ v σ', Q v σ' → Q' v σ') : Runs a σ f args kw Q' :=
  fun c m r => .mk fun s S => codeAny_mono ((h c m (r.mono l)).run s S) fun z s' q => by
    rcases z with e | (v | _ | _ | _) <;> first | exact q | skip
    obtain ⟨m', σ', T, e, q⟩ := q
    exact ⟨m', σ', T, e, k _ _ q⟩
theorem XC.mono {cd : Code} {Q Q' : Value → Lc → AH → Prop} (h : XC c m σ cd Q) (k : ∀ v m' σ', Q v m' σ' → Q' v m' σ') : XC c m σ cd Q' :=
  .mk fun s S => codeAny_mono (h.run s S) fun z s' q => by
    rcases z with e | (v | _ | _ | _) <;> first | exact q | skip
    obtain ⟨m', σ', T, q⟩ := q
    exact ⟨m', σ', T, k _ _ _ q⟩
theorem x_runs {b : Nat} {f : Addr} {args : List Value} {kw : List (PySem.Str × Value)} {QQ : Value → AH → Prop} {Q : Value → Lc → AH → Prop} (R : Runs b σ f args kw QQ) (hr : Room c.A b) (h : ∀ v σ', QQ v σ' → Q v m σ') : XV c m σ (call (.ref f) args kw) Q :=
  x_code ((R c m hr).mono fun v m' σ' ⟨e, q⟩ => by subst e; exact h v σ' q)
theorem x_has {x f : Addr} {name : PySem.Str} {pl : Sem Bool} {pos : Pos} {ta : List (Bool × Sem Value)} {tk : List (Option PySem.Str × Sem Value)} {Q : Value → Lc → AH → Prop} (hh : Has σ x name f)
    (h : XV c m σ (callWith pos (.ref f) [.ref x] ta tk) Q) : XV c m σ (getMethod (.ref x) name pl) (fun fx m2 σ2 => XV c m2 σ2 (callWith pos fx.1 fx.2 ta tk) Q) := by
  obtain ⟨C, fs, e, hv, M⟩ := hh
  exact x_method e hv M.cls M.find M.isf h
theorem Has.keep {x f : Addr} {name : PySem.Str} (h : Has σ x name f) : ∀ P, keepIn (Hd.KK P) (.ref f) = true := by
  obtain ⟨C, fs, e, hv, M⟩ := h
  exact M.keep
/-- a method without arguments -/
theorem x_do0 {b : Nat} {x f : Addr} {name : PySem.Str} {pl : Sem Bool} {pos : Pos} {QQ : Value → AH → Prop} {Q : Value → Lc → AH → Prop} (hh : Has σ x name f) (R : Runs b σ f [.ref x] [] QQ) (hr : Room c.A b) (h : ∀ v σ', QQ v σ' → Q v m σ') :
    XV c m σ (getMethod (.ref x) name pl) (fun fx m2 σ2 => XV c m2 σ2 (callWith pos fx.1 fx.2 (backTo pos (starEach [] env)) (backToKw pos (keywordEach [] env))) Q) :=
  x_has hh (x_cw hh.keep (x_args_nil (x_runs R hr h)))
/-- a method with one argument -/
theorem x_do1 {x f : Addr} {name : PySem.Str} {pl : Sem Bool} {pos : Pos} {e : Expr} {Q : Value → Lc → AH → Prop} (hh : Has σ x name f)
    (h : XV c m σ (eval e env) fun v m1 σ1 => XV c m1 σ1 (call (.ref f) [.ref x, v] []) Q)
    (he : starEach [e] env = [(false, eval e env)] := by rfl) :
    XV c m σ (getMethod (.ref x) name pl) (fun fx m2 σ2 => XV c m2 σ2 (callWith pos fx.1 fx.2 (backTo pos (starEach [e] env)) (backToKw pos (keywordEach [] env))) Q) :=
  x_has hh (x_cw hh.keep (x_args (x_mono h fun _ _ _ q => x_args_nil q) he) (by rw [he]; rfl))
theorem x_fld {x C : Addr} {fs : List (PySem.Str × Value)} {name : PySem.Str} {expr : Bool} {v : Value} {Q : Value → Lc → AH → Prop} (k : FF C name) (e : σ x = some (.inst C fs)) (hv : fs.lookup name = some v)
    (hh : handedIn v = true) (h : Q v m σ) : XV c m σ (getAttr (.ref x) name expr) Q := x_field e hv k.cls k.find noGetNone hh h
theorem x_set {x C : Addr} {fs fs' : List (PySem.Str × Value)} {name : PySem.Str} {v : Value} {Q : Unit → Lc → AH → Prop} (k : FF C name) (e : σ x = some (.inst C fs)) (hz : fs.length ≤ 900) (he : putF name v fs = fs')
    (h : Q () m (put σ x (.inst C fs'))) : XV c m σ (setAttr (.ref x) name v) Q := by
  subst he
  exact x_setfield e k.cls k.tk hz h
/-- a builtin function -/
theorem x_cwb {id : String} {e : Expr} {args : List Expr} {pos : Pos} {Q : Value → Lc → AH → Prop}
    (h : XV c m σ (spliced (backTo pos (starEach (e :: args) env))) fun vs m' σ' => XV c m' σ' (call (.builtin id) vs []) Q)
    (he : starEach (e :: args) env = (false, eval e env) :: starEach args env := by rfl)
    (hplain : (backTo pos (starEach args env)).any (·.1) = false := by rfl) :
    XV c m σ (callWith pos (.builtin id) [] (backTo pos (starEach (e :: args) env)) (backToKw pos (keywordEach [] env))) Q := .mk fun s S => by
  have h' := h.run s S
  rw [he] at h' ⊢
  exact Calls.callWith_builtin (by show (false || (backTo pos (starEach args env)).any (·.1)) = false; rw [hplain]; rfl) (Calls.evalArgs_plain (wpAny_mono h' (fun _ s1 ⟨_, _, S1, q1⟩ => q1.run s1 S1) fun _ _ e => e))
theorem x_cwt {T : String} {e : Expr} {args : List Expr} {pos : Pos} {Q : Value → Lc → AH → Prop}
    (h : XV c m σ (spliced (backTo pos (starEach (e :: args) env))) fun vs m' σ' => XV c m' σ' (call (.type T) vs []) Q)
    (he : starEach (e :: args) env = (false, eval e env) :: starEach args env := by rfl)
    (hplain : (backTo pos (starEach args env)).any (·.1) = false := by rfl) :
    XV c m σ (callWith pos (.type T) [] (backTo pos (starEach (e :: args) env)) (backToKw pos (keywordEach [] env))) Q := .mk fun s S => by
  have h' := h.run s S
  rw [he] at h' ⊢
  exact PyProof.Rows.callWith_type (by show (false || (backTo pos (starEach args env)).any (·.1)) = false; rw [hplain]; rfl) (Calls.evalArgs_plain (wpAny_mono h' (fun _ s1 ⟨_, _, S1, q1⟩ => q1.run s1 S1) fun _ _ e => e))

/-- a def of the program runs -/
theorem runs {b : Nat} {f : Addr} {st : Stmt} {qual : PySem.Str} {cl : List (PySem.Str × Addr)} {dv pm cdv ct : Value} {vs : List Value} {kw : List (PySem.Str × Value)} {binds : List (PySem.Str × Value)} {Q : Value → AH → Prop}
    (hf : ∀ P, (Hd.KK P).lookup f = some (Hd.fnO st qual cl dv pm cdv ct)) (hcd : ∀ P, codeIn (Hd.KK P) cdv qual = true)
    (hb : ∀ P (s : Shared), (Hd.KK P).In s.heap → BindsTo s (fnX (Hd.fName st) qual (Hd.fArgs st) (Hd.fBody st) (Hd.fScope st) cl dv .none .none pm none cdv ct) ⟨vs, kw⟩ binds)
    (hloc : (binds.all fun x => decide ((Hd.fScope st).names.lookup x.1 = some .local)) = true) (hcell : ((Hd.fScope st).names.all fun x => decide (x.2 ≠ .cell)) = true)
    (hk : (Hd.fScope st).isCoroutine = false ∧ (Hd.fScope st).isGenerator = false ∧ (Hd.fScope st).kind = .function)
    (h : ∀ c : Cx, Room c.A b → XV c (fun y => binds.reverse.lookup y) σ (execs (Hd.fBody st) (envX qual (Hd.fScope st) c.L f cdv cl)) fun fl _ σ' => Q (retv fl) σ') : Runs (b + 1) σ f vs kw Q :=
  fun c m r => xc_call hf hcd hb hloc hcell hk r fun A' h₀' L' r' => x_mono (h { c with A := A', h₀ := h₀', L := L' } r') fun _ _ _ q => ⟨rfl, q⟩
/-- while: an invariant with a measure -/
theorem x_while {test : Expr} {body orelse : List Stmt} {pos : Pos} {Q : Flow → Lc → AH → Prop} (I : Nat → Lc → AH → Prop) (n : Nat) (hi : I n m σ)
    (turn : ∀ n m σ, I n m σ → ∀ Q0 : Flow → Lc → AH → Prop, (∀ k m3 σ3, k < n → I k m3 σ3 → Q0 .next m3 σ3) → (∀ m3 σ3, Q .next m3 σ3 → Q0 .brk m3 σ3) → (∀ v m3 σ3, Q (.ret v) m3 σ3 → Q0 (.ret v) m3 σ3) →
      XV c m σ (isTrue test env (eval test env)) fun b m2 σ2 => if b then XV c m2 σ2 (execs body env) Q0 else XV c m2 σ2 (execs orelse env) Q) : XV c m σ (exec (.While test body orelse pos) env) Q := .mk fun s S => by
  refine wpAny_While (codeAny_mono (codeAny_whileLoop (R := fun r s' => match r with | .ok f => ∃ m' σ', ST c m' σ' s' ∧ Q f m' σ' | .error _ => False) (fun n s => ∃ m σ, ST c m σ s ∧ I n m σ) (fun n s ⟨m, σ, S, hI⟩ => ?_) n ⟨m, σ, S, hi⟩) fun r s' q => ?_)
  · refine wpAny_mono ((turn n m σ hI (fun f m3 σ3 => match f with
        | .next | .cont => ∃ k, k < n ∧ I k m3 σ3
        | .brk => Q .next m3 σ3
        | .ret v => Q (.ret v) m3 σ3) (fun k _ _ a b => ⟨k, a, b⟩) (fun _ _ a => a) (fun _ _ _ a => a)).run s S) (fun b s2 ⟨m2, σ2, S2, q⟩ => ?_) fun _ _ e => e.elim
    cases b with
    | false => exact wpAny_mono (q.run s2 S2) (fun f s3 z => z) fun _ _ e => e.elim
    | true =>
      refine wpAny_mono (q.run s2 S2) (fun f s3 ⟨m3, σ3, S3, z⟩ => ?_) fun _ _ e => e.elim
      cases f with
      | next => obtain ⟨k, l, z⟩ := z; exact ⟨k, l, m3, σ3, S3, z⟩
      | cont => obtain ⟨k, l, z⟩ := z; exact ⟨k, l, m3, σ3, S3, z⟩
      | brk => exact ⟨m3, σ3, S3, z⟩
      | ret v => exact ⟨m3, σ3, S3, z⟩
  · cases r with
    | ok f => exact q
    | error e => exact q.elim
end
section
variable {c : Cx} {m : Lc} {σ : AH} {env : Env}
theorem x_assign2 {x y : PySem.Str} {p p' pos : Pos} {value : Expr} {Q : Flow → Lc → AH → Prop} (h : XV c m σ (eval value env) fun v m' σ' => XV c m' σ' (storeName env x v) fun _ m' σ' => XV c m' σ' (storeName env y v) fun _ => Q .next) :
    XV c m σ (exec (.Assign [.Name x p, .Name y p'] value pos) env) Q :=
  .mk fun s S => wpAny_Assign_two (wpAny_mono (h.run s S) (fun v s1 ⟨_, _, S1, q1⟩ => wpAny_assign_Name (wpAny_mono (q1.run s1 S1) (fun _ s2 ⟨_, _, S2, q2⟩ => wpAny_assign_Name (wpAny_mono (q2.run s2 S2) (fun _ s3 z => z) fun _ _ e => e)) fun _ _ e => e)) fun _ _ e => e)
end
end Mine
namespace Mine
open PySem PySem.W PySem.Calls PyProof.Rows PySem.F
local macro_rules | `(tactic| walk_at "g") => `(tactic| with_reducible first
  | refine x_execs_nil ?_
  | (refine x_execs (st := ?_) (rest := ?_) ?_ ?_; rotate_left 2; · with_unfolding_all rfl)
  | (refine x_name (v := ?_) ?_ ?_ ?_ ?_ ?_; rotate_left; (· with_unfolding_all first | rfl | assumption); rotate_left; (· with_unfolding_all rfl); (· with_unfolding_all rfl); (· with_unfolding_all rfl); rotate_right)
  | (refine x_attr ?_ ?_; rotate_left; (· with_unfolding_all rfl); rotate_right)
  | (refine x_mcall (pl := ?_) ?_ ?_; rotate_left 2; (· with_unfolding_all rfl); rotate_right)
  | refine x_fcall ?_
  | refine x_ret ?_
  | refine x_ret_none ?_
  | refine x_if ?_
  | (refine x_assign ?_ ?_; rotate_left; (· with_unfolding_all rfl); rotate_right)
  | (refine x_store ?_ ?_ ?_; rotate_left; (· with_unfolding_all rfl); (· with_unfolding_all rfl); rotate_right)
  | (refine x_assign_attr ?_ ?_; rotate_left; (· with_unfolding_all rfl); rotate_right)
  | (refine x_expr ?_ ?_ ?_; rotate_left; (· with_unfolding_all rfl); (· with_unfolding_all rfl); rotate_right)
  | refine x_args_nil ?_
  | (refine x_args ?_ ?_; rotate_left; (· with_unfolding_all rfl); rotate_right)
  | (refine x_cmp ?_ ?_; rotate_left; (· with_unfolding_all rfl); rotate_right)
  | refine x_binop ?_
  | (refine x_item ?_ ?_; rotate_left; (· with_unfolding_all rfl); rotate_right)
  | refine x_int ?_
  | refine x_none ?_
  | refine x_bool ?_
  | refine x_boolop ?_
  | (refine x_true_cmp ?_ ?_; rotate_left; (· with_unfolding_all rfl); rotate_right)
  | refine x_true_not ?_
  | refine x_true_bool ?_
  | refine x_and_nil ?_
  | refine x_or_nil ?_
  | refine x_and_cons ?_
  | refine x_or_cons ?_
  | (refine x_true ?_ ?_; rotate_left; (· with_unfolding_all rfl); rotate_right)
  | refine x_lt_int ?_
  | refine x_gt_int ?_
  | refine x_ge_int ?_
  | refine x_le_int ?_
  | refine x_eq_int ?_
  | refine x_ne_int ?_
  | refine x_iadd_int ?_
  | refine x_add_int ?_
  | refine x_sub_int ?_
  | refine x_truthy_bool ?_
  | refine x_truthy_none ?_
  | refine x_truthy_int ?_
  | refine x_assign2 ?_
  | refine x_aug_attr ?_
  | refine x_brk ?_
  | refine x_assert ?_)
noncomputable def nList (l w : Addr) (i : Int) (t : Tok) : Node := .inst 453 [(S "_ids", .ref l), (S "_weights", .ref w), (S "_all_weights", .none), (S "_values", .none), (S "_i", .int i t), (S "_format", .none), (S "_scorer", .none), (S "_term", .none), (S "_terminfo", .none)]
theorem put_put (σ : AH) (x : Addr) (n n' : Node) : put (put σ x n) x n' = put σ x n' := by
  funext y; unfold put; split <;> rfl
theorem put_same {σ : AH} {x : Addr} {n : Node} (e : σ x = some n) : put σ x n = σ := by
  funext y; unfold put; split
  · rename_i q; rw [q, e]
  · rfl
theorem ite_no {p : Prop} [Decidable p] {A B : Prop} (h : ¬ p) (b : B) : if p then A else B := by rw [if_neg h]; exact b
theorem ite_yes {p : Prop} [Decidable p] {A B : Prop} (h : p) (a : A) : if p then A else B := by rw [if_pos h]; exact a
structure Ints (vs : List Value) (ns : List Int) : Prop where
  h1 : vs.length = ns.length
  h2 : ∀ (k : Nat) n, ns[k]? = some n → ∃ t, vs[k]? = some (.int n t)
section
variable {c : Cx} {m : Lc} {σ : AH}
theorem r316 {b : Nat} {x l w : Addr} {vs : List Value} {i : Int} {t : Tok} (e : σ x = some (nList l w i t)) (el : σ l = some (.list vs)) (hz : vs.length < 2 ^ 62) :
    Runs (b + 1) σ 316 [.ref x] [] fun v σ' => v = .bool (decide (i < vs.length)) ∧ σ = σ' := by
  refine runs (binds := [(S "self", .ref x)]) f316 c316 (fun P s X => .of_eq (by rfl)) (by rfl) (by rfl) (by exact ⟨rfl, rfl, rfl⟩) fun c r => ?_
  repeat walk_at "g"
  refine x_fld a453_i e rfl rfl ?_
  walk_at "g"
  refine x_builtin b_len.1 b_len.2 (by decide) ?_
  refine x_cwb ?_
  repeat walk_at "g"
  refine x_fld a453_ids e rfl rfl ?_
  walk_at "g"
  refine x_len_list el hz fun t => ?_
  walk_at "g"
  exact ⟨rfl, rfl⟩
/-- next -/
theorem r415 {b : Nat} {x l w : Addr} {i : Int} {t : Tok} (e : σ x = some (nList l w i t)) :
    Runs (b + 1) σ 415 [.ref x] [] fun v σ' => v = .none ∧ ∃ t', σ' = put σ x (nList l w (i + 1) t') := by
  refine runs (binds := [(S "self", .ref x)]) f415 c415 (fun P s X => .of_eq (by rfl)) (by rfl) (by rfl) (by exact ⟨rfl, rfl, rfl⟩) fun c r => ?_
  repeat walk_at "g"
  refine x_fld a453_i e rfl rfl ?_
  walk_at "g"
  intro t1
  walk_at "g"
  intro t2
  refine x_set a453_i e (Nat.le_of_ble_eq_true rfl) rfl ?_
  dsimp only
  walk_at "g"
  exact ⟨rfl, t2, rfl⟩
/-- id -/
theorem r387 {b : Nat} {x l w : Addr} {vs : List Value} {ps : List Int} {i : Nat} {p : Int} {t : Tok} (e : σ x = some (nList l w i t)) (el : σ l = some (.list vs)) (hz : vs.length < 2 ^ 62) (hi : Ints vs ps) (hp : ps[i]? = some p) :
    Runs (b + 1) σ 387 [.ref x] [] fun v σ' => (∃ t, v = .int p t) ∧ σ = σ' := by
  refine runs (binds := [(S "self", .ref x)]) f387 c387 (fun P s X => .of_eq (by rfl)) (by rfl) (by rfl) (by exact ⟨rfl, rfl, rfl⟩) fun c r => ?_
  obtain ⟨u, hu⟩ := hi.2 _ _ hp
  have hl := (List.getElem?_eq_some_iff.mp hu).1
  repeat walk_at "g"
  refine x_fld a453_ids e rfl rfl ?_
  repeat walk_at "g"
  refine x_fld a453_i e rfl rfl ?_
  refine x_list_item el (Int.natCast_nonneg _) (by omega) (by rw [Int.toNat_natCast]; exact hu) ?_
  exact ⟨⟨u, rfl⟩, rfl⟩
/-- skip_to -/
theorem r330 {b : Nat} {x l w : Addr} {vs : List Value} {ps : List Int} {i : Nat} {g : Int} {t u : Tok} (e : σ x = some (nList l w i t)) (el : σ l = some (.list vs)) (hz : vs.length < 2 ^ 62) (hi : Ints vs ps) (hp : i < ps.length) :
    Runs (b + 2) σ 330 [.ref x, .int g u] [] fun v σ' => v = .none ∧ ∃ (j : Nat) (t' : Tok), σ' = put σ x (nList l w j t') ∧ i ≤ j ∧ j ≤ ps.length ∧ (∀ k p, i ≤ k → k < j → ps[k]? = some p → p < g) ∧ ∀ p, ps[j]? = some p → g ≤ p := by
  refine runs (binds := [(S "self", .ref x), (S "id", .int g u)]) f330 c330 (fun P s X => .of_eq (by rfl)) (by rfl) (by rfl) (by exact ⟨rfl, rfl, rfl⟩) fun c r => ?_
  repeat walk_at "g"
  refine x_do0 ⟨_, _, e, rfl, m453_is_active⟩ (r316 e el hz) r fun v σ' q => ?_
  obtain ⟨rfl, rfl⟩ := q
  walk_at "g"
  refine ite_no (by rw [decide_eq_true (by rw [hi.1]; omega)]; decide) ?_
  repeat walk_at "g"
  refine x_do0 ⟨_, _, e, rfl, m453_id⟩ (r387 e el hz hi (List.getElem?_eq_getElem hp)) r fun v σ' q => ?_
  obtain ⟨⟨t1, rfl⟩, rfl⟩ := q
  repeat walk_at "g"
  by_cases hg : g < ps[i]
  · refine ite_yes (decide_eq_true hg) ?_
    repeat walk_at "g"
    refine ⟨rfl, i, t, (put_same e).symm, Nat.le_refl _, Nat.le_of_lt hp, fun k p h1 h2 => absurd h2 (by omega), fun p h => ?_⟩
    rw [List.getElem?_eq_getElem hp] at h
    cases h; exact Int.le_of_lt hg
  · refine ite_no (by rw [decide_eq_false hg]; decide) ?_
    repeat walk_at "g"
    have hlx : l ≠ x := fun q => by rw [q, e] at el; cases el
    refine x_while (fun n m' σ' => m' = (fun y => List.lookup y [(S "self", Value.ref x), (S "id", Value.int g u)].reverse) ∧ ∃ (j : Nat) (t' : Tok), σ' = put σ x (nList l w j t') ∧ i ≤ j ∧ j ≤ ps.length ∧ (∀ k p, i ≤ k → k < j → ps[k]? = some p → p < g) ∧ n = ps.length - j) (ps.length - i)
      ⟨rfl, i, t, (put_same e).symm, Nat.le_refl _, Nat.le_of_lt hp, fun k p h1 h2 => absurd h2 (by omega), rfl⟩ ?_
    rintro n m' σ' ⟨rfl, j, t', rfl, h1, h2, h3, h4⟩ Q0 hN0 hBk hRt
    have e2 : put σ x (nList l w j t') x = some (nList l w j t') := put_self _ _ _
    have el2 : put σ x (nList l w j t') l = some (.list vs) := by rw [put_ne hlx]; exact el
    repeat walk_at "g"
    refine x_fld a453_i e2 rfl rfl ?_
    repeat walk_at "g"
    refine x_builtin b_len.1 b_len.2 (by decide) ?_
    refine x_cwb ?_
    repeat walk_at "g"
    refine x_fld a453_ids e2 rfl rfl ?_
    repeat walk_at "g"
    refine x_len_list el2 hz fun t3 => ?_
    repeat walk_at "g"
    by_cases hj : j < ps.length
    · refine ite_yes (decide_eq_true (by rw [hi.1]; omega)) ?_
      obtain ⟨t4, h5⟩ := hi.2 j ps[j] (List.getElem?_eq_getElem hj)
      repeat walk_at "g"
      refine x_fld a453_ids e2 rfl rfl ?_
      repeat walk_at "g"
      refine x_fld a453_i e2 rfl rfl ?_
      refine x_list_item el2 (Int.natCast_nonneg _) (by rw [hi.1] at hz; omega) (by rw [Int.toNat_natCast]; exact h5) ?_
      repeat walk_at "g"
      by_cases hjg : ps[j] < g
      · refine ite_yes (decide_eq_true hjg) ?_
        repeat walk_at "g"
        refine ite_yes rfl ?_
        repeat walk_at "g"
        refine x_fld a453_i e2 rfl rfl ?_
        repeat walk_at "g"
        intro t5
        repeat walk_at "g"
        intro t6
        refine x_set a453_i e2 (Nat.le_of_ble_eq_true rfl) rfl ?_
        dsimp only
        repeat walk_at "g"
        refine hN0 (ps.length - (j + 1)) _ _ (by omega) ⟨rfl, j + 1, t6, ?_, by omega, hj, fun k p k1 k2 k3 => ?_, rfl⟩
        · exact put_put _ _ _ _
        · by_cases q : k = j
          · subst q
            rw [List.getElem?_eq_getElem hj] at k3
            cases k3; exact hjg
          · exact h3 k p k1 (by omega) k3
      · refine ite_no (by rw [decide_eq_false hjg]; decide) ?_
        refine ite_no (by decide) ?_
        repeat walk_at "g"
        refine ⟨rfl, j, t', rfl, h1, h2, h3, fun p q => ?_⟩
        rw [List.getElem?_eq_getElem hj] at q
        cases q; exact Int.not_lt.mp hjg
    · refine ite_no (by rw [decide_eq_false (by rw [hi.1]; omega)]; decide) ?_
      refine ite_no (by decide) ?_
      repeat walk_at "g"
      refine ⟨rfl, j, t', rfl, h1, h2, h3, fun p q => ?_⟩
      exact absurd (List.getElem?_eq_some_iff.mp q).1 hj
/-- weight -/
theorem r422 {b : Nat} {x l w : Addr} {vw : List Value} {ws : List Int} {i : Nat} {p : Int} {t : Tok} (e : σ x = some (nList l w i t)) (ew : σ w = some (.list vw)) (hz : vw.length < 2 ^ 62) (hi : Ints vw ws) (hp : ws[i]? = some p) :
    Runs (b + 1) σ 422 [.ref x] [] fun v σ' => (∃ t, v = .int p t) ∧ σ = σ' := by
  refine runs (binds := [(S "self", .ref x)]) f422 c422 (fun P s X => .of_eq (by rfl)) (by rfl) (by rfl) (by exact ⟨rfl, rfl, rfl⟩) fun c r => ?_
  obtain ⟨u, hu⟩ := hi.2 _ _ hp
  have hl := (List.getElem?_eq_some_iff.mp hu).1
  repeat walk_at "g"
  refine x_fld a453_all_weights e rfl rfl ?_
  repeat walk_at "g"
  refine ite_no (by decide) ?_
  repeat walk_at "g"
  refine x_fld a453_weights e rfl rfl ?_
  refine x_truthy_list ew hz ?_
  refine ite_yes (by cases vw <;> first | rfl | exact absurd hl (Nat.not_lt_zero _)) ?_
  repeat walk_at "g"
  refine x_fld a453_weights e rfl rfl ?_
  repeat walk_at "g"
  refine x_fld a453_i e rfl rfl ?_
  refine x_list_item ew (Int.natCast_nonneg _) (by omega) (by rw [Int.toNat_natCast]; exact hu) ?_
  exact ⟨⟨u, rfl⟩, rfl⟩
end
noncomputable abbrev Strm := Int → Option Int
noncomputable def cut (g : Int) (R : Strm) : Strm := fun i => if i < g then none else R i
noncomputable def Act (R : Strm) : Prop := ∃ i w, R i = some w
noncomputable def Hdd (R : Strm) (i w : Int) : Prop := R i = some w ∧ ∀ j, j < i → R j = none
noncomputable def Bdd (R : Strm) : Prop := ∃ N : Nat, ∀ i w, R i = some w → -(N : Int) ≤ i ∧ i ≤ N
noncomputable def Off (fp : Addr → Prop) (σ σ' : AH) : Prop := ∀ y, ¬ fp y → σ' y = σ y
noncomputable abbrev RepT := AH → Addr → Strm → (Addr → Prop) → Prop

theorem cut_some {g : Int} {R : Strm} {i w : Int} : cut g R i = some w ↔ g ≤ i ∧ R i = some w := by
  unfold cut
  by_cases q : i < g
  · rw [if_pos q]; exact ⟨fun h => (nomatch h), fun h => absurd h.1 (Int.not_le.mpr q)⟩
  · rw [if_neg q]; exact ⟨fun h => ⟨Int.not_lt.mp q, h⟩, fun h => h.2⟩
theorem Strm.ext {R R' : Strm} (h : ∀ i w, R i = some w ↔ R' i = some w) : R = R' := by
  funext i
  rcases e : R i with _ | w
  · rcases e' : R' i with _ | w
    · rfl
    · rw [(h i w).mpr e'] at e; cases e
  · exact ((h i w).mp e).symm
theorem Bdd.head {R : Strm} (b : Bdd R) (a : Act R) : ∃ i w, Hdd R i w := by
  obtain ⟨N, h⟩ := b
  obtain ⟨i, w, e⟩ := a
  have key : ∀ (n : Nat) (i w : Int), R i = some w → i + N ≤ n → ∃ i w, Hdd R i w := by
    intro n
    induction n with
    | zero =>
      intro i w e l
      refine ⟨i, w, e, fun j hj => ?_⟩
      rcases z : R j with _ | w'
      · rfl
      · have := h j w' z; omega
    | succ n ih =>
      intro i w e l
      by_cases q : ∃ j w', j < i ∧ R j = some w'
      · obtain ⟨j, w', hj, e'⟩ := q
        exact ih j w' e' (by omega)
      · refine ⟨i, w, e, fun j hj => ?_⟩
        rcases z : R j with _ | w'
        · rfl
        · exact (q ⟨j, w', hj, z⟩).elim
  have := h i w e
  exact key (i + N).toNat i w e (by omega)
theorem Hdd.act {R : Strm} {i w : Int} (h : Hdd R i w) : Act R := ⟨i, w, h.1⟩
theorem Hdd.le {R : Strm} {i w j v : Int} (h : Hdd R i w) (e : R j = some v) : i ≤ j := by
  by_cases q : j < i
  · rw [h.2 j q] at e; cases e
  · exact Int.not_lt.mp q
theorem Hdd.uniq {R : Strm} {i w j v : Int} (h : Hdd R i w) (h' : Hdd R j v) : i = j ∧ w = v := by
  have a := h.le h'.1
  have b := h'.le h.1
  have : i = j := by omega
  subst this
  exact ⟨rfl, Option.some.inj (h.1.symm.trans h'.1)⟩
theorem cut_id {R : Strm} {i w g : Int} (h : Hdd R i w) (l : g ≤ i) : cut g R = R :=
  Strm.ext fun j v => cut_some.trans ⟨fun h => h.2, fun e => ⟨Int.le_trans l (h.le e), e⟩⟩
theorem cut_cut {R : Strm} {g g' : Int} : cut g (cut g' R) = cut (max g g') R :=
  Strm.ext fun j v => by rw [cut_some, cut_some, cut_some, ← and_assoc]; exact and_congr_left fun _ => by omega
theorem Bdd.cut {R : Strm} (h : Bdd R) (g : Int) : Bdd (cut g R) := by
  obtain ⟨N, h⟩ := h
  exact ⟨N, fun i w e => h i w (cut_some.mp e).2⟩
theorem Off.refl (fp : Addr → Prop) (σ : AH) : Off fp σ σ := fun _ _ => rfl
theorem Off.trans {fp : Addr → Prop} {σ σ' σ'' : AH} (h : Off fp σ σ') (h' : Off fp σ' σ'') : Off fp σ σ'' := fun y q => (h' y q).trans (h y q)
theorem Off.mono {fp fp' : Addr → Prop} {σ σ' : AH} (h : Off fp σ σ') (k : ∀ y, fp y → fp' y) : Off fp' σ σ' := fun y q => h y fun z => q (k y z)
theorem Off.put {fp : Addr → Prop} {σ : AH} {x : Addr} {n : Node} (h : fp x) : Off fp σ (put σ x n) := fun y q => put_ne fun z => q (z ▸ h)

noncomputable def Back (v : Value) : Prop := v = .none ∨ ∃ t, v = .bool t
/-- what a kid of a MultiMatcher does -/
structure Kid (b : Nat) (P : RepT) : Prop where
  act : ∀ {σ x R fp}, P σ x R fp → ∃ f, Has σ x "is_active" f ∧ Runs b σ f [.ref x] [] fun v σ' => (∃ t : Bool, v = .bool t ∧ (t = true ↔ Act R)) ∧ σ = σ'
  id : ∀ {σ x R fp i w}, P σ x R fp → Hdd R i w → ∃ f, Has σ x "id" f ∧ Runs b σ f [.ref x] [] fun v σ' => (∃ t, v = .int i t) ∧ P σ' x R fp ∧ Off fp σ σ'
  weight : ∀ {σ x R fp i w}, P σ x R fp → Hdd R i w → ∃ f, Has σ x "weight" f ∧ Runs b σ f [.ref x] [] fun v σ' => (∃ t, v = .int w t) ∧ P σ' x R fp ∧ Off fp σ σ'
  next : ∀ {σ x R fp i w}, P σ x R fp → Hdd R i w → ∃ f, Has σ x "next" f ∧ Runs b σ f [.ref x] [] fun v σ' => Back v ∧ P σ' x (cut (i + 1) R) fp ∧ Off fp σ σ'
  skip : ∀ {σ x R fp}, P σ x R fp → Act R → ∃ f, Has σ x "skip_to" f ∧ ∀ g t, Runs b σ f [.ref x, .int g t] [] fun v σ' => Back v ∧ P σ' x (cut g R) fp ∧ Off fp σ σ'
  bdd : ∀ {σ x R fp}, P σ x R fp → Bdd R
  loc : ∀ {σ σ' x R fp}, P σ x R fp → (∀ y, fp y → σ' y = σ y) → P σ' x R fp
  dom : ∀ {σ x R fp y}, P σ x R fp → fp y → σ y ≠ none
  self : ∀ {σ x R fp}, P σ x R fp → fp x
structure Sco (b : Nat) (P : RepT) : Prop where
  score : ∀ {σ x R fp i w}, P σ x R fp → Hdd R i w → ∃ f, Has σ x "score" f ∧ Runs b σ f [.ref x] [] fun v σ' => (∃ t, v = .int w t) ∧ P σ' x R fp ∧ Off fp σ σ'
inductive Rpost (P : RepT) (σ : AH) (R : Strm) (fp : Addr → Prop) (v : Value) (σ' : AH) : Prop
  | mk (x' : Addr) (fp' : Addr → Prop) (h1 : v = .ref x') (h2 : P σ' x' R fp') (h3 : (∀ a, fp' a → fp a ∨ σ a = none)) (h4 : ∀ y, ¬ fp y → σ y ≠ none → σ' y = σ y) : Rpost P σ R fp v σ'
structure Rpl (b : Nat) (P P' : RepT) : Prop where
  rpl : ∀ {σ x R fp}, P σ x R fp → Act R → ∃ f, Has σ x "replace" f ∧ Runs b σ f [.ref x] [] (Rpost P' σ R fp) ∧ ∀ t, Runs b σ f [.ref x, .int 0 t] [] (Rpost P' σ R fp)

section
variable {c : Cx} {m : Lc} {σ : AH} {env : Env} {b : Nat} {x : Addr} {name : PySem.Str} {pl : Sem Bool} {pos : Pos} {Q : Value → Lc → AH → Prop} {P : RepT} {R : Strm} {fp : Addr → Prop} {i : Int} {p : Prop}
noncomputable abbrev Call0 (c : Cx) (m : Lc) (σ : AH) (x : Addr) (name : PySem.Str) (pl : Sem Bool) (pos : Pos) (env : Env) (Q : Value → Lc → AH → Prop) : Prop :=
  XV c m σ (getMethod (.ref x) name pl) (fun fx m2 σ2 => XV c m2 σ2 (callWith pos fx.1 fx.2 (backTo pos (starEach [] env)) (backToKw pos (keywordEach [] env))) Q)
theorem x_act (h : ∃ f, Has σ x name f ∧ Runs b σ f [.ref x] [] fun v σ' => (∃ t : Bool, v = .bool t ∧ (t = true ↔ p)) ∧ σ = σ') (hr : Room c.A b) (k : ∀ t : Bool, (t = true ↔ p) → Q (.bool t) m σ) : Call0 c m σ x name pl pos env Q := by
  obtain ⟨f, hf, h⟩ := h
  refine x_do0 hf h hr fun v σ' q => ?_
  obtain ⟨⟨t, rfl, ht⟩, rfl⟩ := q
  exact k t ht
theorem x_val0 (h : ∃ f, Has σ x name f ∧ Runs b σ f [.ref x] [] fun v σ' => (∃ t, v = .int i t) ∧ P σ' x R fp ∧ Off fp σ σ') (hr : Room c.A b) (k : ∀ t σ', P σ' x R fp → Off fp σ σ' → Q (.int i t) m σ') : Call0 c m σ x name pl pos env Q := by
  obtain ⟨f, hf, h⟩ := h
  refine x_do0 hf h hr fun v σ' q => ?_
  obtain ⟨⟨t, rfl⟩, h1, h2⟩ := q
  exact k t σ' h1 h2
theorem x_next0 (h : ∃ f, Has σ x name f ∧ Runs b σ f [.ref x] [] fun v σ' => Back v ∧ P σ' x R fp ∧ Off fp σ σ') (hr : Room c.A b) (k : ∀ v σ', Back v → P σ' x R fp → Off fp σ σ' → Q v m σ') : Call0 c m σ x name pl pos env Q := by
  obtain ⟨f, hf, h⟩ := h
  exact x_do0 hf h hr fun v σ' q => k v σ' q.1 q.2.1 q.2.2
end
-- ListMatcher
inductive LRep (σ : AH) (x : Addr) (R : Strm) (fp : Addr → Prop) : Prop
  | mk (l w : Addr) (vs vw : List Value) (ps ws : List Int) (i : Nat) (t : Tok) (h1 : σ x = some (nList l w i t)) (h2 : σ l = some (.list vs)) (h3 : σ w = some (.list vw)) (h4 : Ints vs ps) (h5 : Ints vw ws) (h6 : ps.length = ws.length) (h7 : i ≤ ps.length) (h8 : vs.length < 2 ^ 62) (h9 : (∀ (j k : Nat) (p q : Int), j < k → ps[j]? = some p → ps[k]? = some q → p < q)) (h10 : (∀ p v, R p = some v ↔ ∃ k : Nat, i ≤ k ∧ ps[k]? = some p ∧ ws[k]? = some v)) (h11 : fp = fun y => y = x ∨ y = l ∨ y = w) : LRep σ x R fp
theorem lrep_head {ps ws : List Int} {i : Nat} {R : Strm} {p v : Int} (hl : ps.length = ws.length) (hs : ∀ (j k : Nat) (p q : Int), j < k → ps[j]? = some p → ps[k]? = some q → p < q)
    (hR : ∀ p v, R p = some v ↔ ∃ k : Nat, i ≤ k ∧ ps[k]? = some p ∧ ws[k]? = some v) (h : Hdd R p v) : ps[i]? = some p ∧ ws[i]? = some v := by
  obtain ⟨k, h1, h2, h3⟩ := (hR p v).mp h.1
  have hk := (List.getElem?_eq_some_iff.mp h2).1
  rcases Nat.eq_or_lt_of_le h1 with e | l
  · subst e; exact ⟨h2, h3⟩
  · have a := hs i k ps[i] p l (List.getElem?_eq_getElem (by omega)) h2
    have c := (hR ps[i] (ws[i]'(by omega))).mpr ⟨i, Nat.le_refl _, List.getElem?_eq_getElem (by omega), List.getElem?_eq_getElem (by omega)⟩
    rw [h.2 _ a] at c; cases c
theorem lrep_bdd (ps ws : List Int) : ∃ N : Nat, ∀ (p v : Int), (∃ k : Nat, ps[k]? = some p ∧ ws[k]? = some v) → -(N : Int) ≤ p ∧ p ≤ N := by
  suffices h : ∃ N : Nat, ∀ p ∈ ps, -(N : Int) ≤ p ∧ p ≤ N by
    obtain ⟨N, h⟩ := h
    exact ⟨N, fun p v ⟨k, h1, _⟩ => h p (List.mem_of_getElem? h1)⟩
  induction ps with
  | nil => exact ⟨0, fun p h => (nomatch h)⟩
  | cons a r ih =>
    obtain ⟨N, h⟩ := ih
    refine ⟨N + a.natAbs, fun p hp => ?_⟩
    rcases List.mem_cons.mp hp with rfl | hp
    · omega
    · have := h p hp; omega
theorem kid_list : Kid 2 LRep where
  act := by
    rintro σ x R fp ⟨l, w, vs, vw, ps, ws, i, t, e, el, ew, hi, hw, hl, hil, hz, hs, hR, rfl⟩
    refine ⟨316, ⟨_, _, e, rfl, m453_is_active⟩, (r316 (b := 1) e el hz).mono (Nat.le_refl _) fun v σ' q => ⟨⟨_, q.1, ?_⟩, q.2⟩⟩
    rw [decide_eq_true_iff, hi.1]
    constructor
    · intro h
      exact ⟨ps[i]'(by omega), ws[i]'(by omega), (hR _ _).mpr ⟨i, Nat.le_refl _, List.getElem?_eq_getElem _, List.getElem?_eq_getElem _⟩⟩
    · rintro ⟨p, v, h⟩
      obtain ⟨k, h1, h2, _⟩ := (hR _ _).mp h
      have := (List.getElem?_eq_some_iff.mp h2).1
      omega
  id := by
    rintro σ x R fp p v ⟨l, w, vs, vw, ps, ws, i, t, e, el, ew, hi, hw, hl, hil, hz, hs, hR, rfl⟩ h
    have hh := lrep_head hl hs hR h
    refine ⟨387, ⟨_, _, e, rfl, m453_id⟩, (r387 (b := 1) e el hz hi hh.1).mono (Nat.le_refl _) fun v σ' q => ?_⟩
    obtain ⟨q, rfl⟩ := q
    exact ⟨q, ⟨l, w, vs, vw, ps, ws, i, t, e, el, ew, hi, hw, hl, hil, hz, hs, hR, rfl⟩, Off.refl _ _⟩
  weight := by
    rintro σ x R fp p v ⟨l, w, vs, vw, ps, ws, i, t, e, el, ew, hi, hw, hl, hil, hz, hs, hR, rfl⟩ h
    have hh := lrep_head hl hs hR h
    refine ⟨422, ⟨_, _, e, rfl, m453_weight⟩, (r422 (b := 1) e ew (by rw [hw.1, ← hl, ← hi.1]; exact hz) hw hh.2).mono (Nat.le_refl _) fun v σ' q => ?_⟩
    obtain ⟨q, rfl⟩ := q
    exact ⟨q, ⟨l, w, vs, vw, ps, ws, i, t, e, el, ew, hi, hw, hl, hil, hz, hs, hR, rfl⟩, Off.refl _ _⟩
  next := by
    rintro σ x R fp p v ⟨l, w, vs, vw, ps, ws, i, t, e, el, ew, hi, hw, hl, hil, hz, hs, hR, rfl⟩ h
    have hh := lrep_head hl hs hR h
    have hlx : l ≠ x := fun q => by rw [q, e] at el; cases el
    have hwx : w ≠ x := fun q => by rw [q, e] at ew; cases ew
    have hk := (List.getElem?_eq_some_iff.mp hh.1).1
    refine ⟨415, ⟨_, _, e, rfl, m453_next⟩, (r415 (b := 1) e).mono (Nat.le_refl _) fun v σ' q => ?_⟩
    obtain ⟨rfl, t', rfl⟩ := q
    refine ⟨.inl rfl, ⟨l, w, vs, vw, ps, ws, i + 1, t', put_self _ _ _, by rw [put_ne hlx]; exact el, by rw [put_ne hwx]; exact ew, hi, hw, hl, hk, hz, hs, fun p' v' => ?_, rfl⟩, Off.put (.inl rfl)⟩
    rw [cut_some, hR]
    constructor
    · rintro ⟨h1, k, h2, h3, h4⟩
      refine ⟨k, ?_, h3, h4⟩
      rcases Nat.eq_or_lt_of_le h2 with e | l
      · subst e; rw [hh.1] at h3; cases h3; omega
      · exact l
    · rintro ⟨k, h2, h3, h4⟩
      exact ⟨hs i k p p' h2 hh.1 h3, k, by omega, h3, h4⟩
  skip := by
    rintro σ x R fp ⟨l, w, vs, vw, ps, ws, i, t, e, el, ew, hi, hw, hl, hil, hz, hs, hR, rfl⟩ ⟨p0, v0, h0⟩
    have hlx : l ≠ x := fun q => by rw [q, e] at el; cases el
    have hwx : w ≠ x := fun q => by rw [q, e] at ew; cases ew
    have hk : i < ps.length := by
      obtain ⟨k, h1, h2, _⟩ := (hR _ _).mp h0
      have := (List.getElem?_eq_some_iff.mp h2).1
      omega
    refine ⟨330, ⟨_, _, e, rfl, m453_skip_to⟩, fun g u => (r330 (b := 0) e el hz hi hk).mono (Nat.le_refl _) fun v σ' q => ?_⟩
    obtain ⟨rfl, j, t', rfl, h1, h2, h3, h4⟩ := q
    refine ⟨.inl rfl, ⟨l, w, vs, vw, ps, ws, j, t', put_self _ _ _, by rw [put_ne hlx]; exact el, by rw [put_ne hwx]; exact ew, hi, hw, hl, h2, hz, hs, fun p' v' => ?_, rfl⟩, Off.put (.inl rfl)⟩
    rw [cut_some, hR]
    constructor
    · rintro ⟨h5, k, h6, h7, h8⟩
      refine ⟨k, ?_, h7, h8⟩
      by_cases q : k < j
      · have := h3 k p' h6 q h7; omega
      · omega
    · rintro ⟨k, h6, h7, h8⟩
      refine ⟨?_, k, by omega, h7, h8⟩
      rcases Nat.eq_or_lt_of_le h6 with e | l
      · subst e; exact h4 _ h7
      · have hkl := (List.getElem?_eq_some_iff.mp h7).1
        have hj : ps[j]? = some ps[j] := List.getElem?_eq_getElem (by omega)
        exact Int.le_of_lt (Int.lt_of_le_of_lt (h4 _ hj) (hs j k _ _ l hj h7))
  bdd := by
    rintro σ x R fp ⟨l, w, vs, vw, ps, ws, i, t, e, el, ew, hi, hw, hl, hil, hz, hs, hR, rfl⟩
    obtain ⟨N, h⟩ := lrep_bdd ps ws
    exact ⟨N, fun p v q => h p v (by obtain ⟨k, _, h⟩ := (hR _ _).mp q; exact ⟨k, h⟩)⟩
  loc := by
    rintro σ σ' x R fp ⟨l, w, vs, vw, ps, ws, i, t, e, el, ew, hi, hw, hl, hil, hz, hs, hR, rfl⟩ h
    exact ⟨l, w, vs, vw, ps, ws, i, t, by rw [h x (.inl rfl)]; exact e, by rw [h l (.inr (.inl rfl))]; exact el, by rw [h w (.inr (.inr rfl))]; exact ew, hi, hw, hl, hil, hz, hs, hR, rfl⟩
  dom := by
    rintro σ x R fp y ⟨l, w, vs, vw, ps, ws, i, t, e, el, ew, hi, hw, hl, hil, hz, hs, hR, rfl⟩ (rfl | rfl | rfl)
    · rw [e]; exact fun h => (nomatch h)
    · rw [el]; exact fun h => (nomatch h)
    · rw [ew]; exact fun h => (nomatch h)
  self := by
    rintro σ x R fp ⟨l, w, vs, vw, ps, ws, i, t, e, el, ew, hi, hw, hl, hil, hz, hs, hR, rfl⟩
    exact .inl rfl
noncomputable def nMulti (ml ol sc : Addr) (i : Int) (t : Tok) : Node := .inst 593 [(S "matchers", .ref ml), (S "offsets", .ref ol), (S "scorer", .ref sc), (S "current", .int i t)]
structure MC (P : RepT) (σ : AH) (x ml ol sc : Addr) (n cur : Nat) (t : Tok) (as : Nat → Addr) (os : Nat → Int) (Rk : Nat → Strm) (fk : Nat → Addr → Prop) : Prop where
  e : σ x = some (nMulti ml ol sc cur t)
  em : ∃ vm, σ ml = some (.list vm) ∧ vm.length = n ∧ ∀ k, k < n → vm[k]? = some (.ref (as k))
  eo : ∃ vo, σ ol = some (.list vo) ∧ vo.length = n ∧ ∀ k, k < n → ∃ t, vo[k]? = some (.int (os k) t)
  es : ∃ fs, σ sc = some (.inst 1170 fs) ∧ fs.lookup (S "score") = none
  kids : ∀ k, cur ≤ k → k < n → P σ (as k) (Rk k) (fk k)
  dis : ∀ j k y, cur ≤ j → j < n → cur ≤ k → k < n → fk j y → fk k y → j = k
  off : ∀ k y, cur ≤ k → k < n → fk k y → y ≠ x ∧ y ≠ ml ∧ y ≠ ol ∧ y ≠ sc
  hn : n < 2 ^ 62
  hc : cur ≤ n
  ord : ∀ j k p q v v', cur ≤ j → j < k → k < n → Rk j p = some v → Rk k q = some v' → p + os j < q + os k
section
variable {P : RepT} {σ σ' : AH} {x ml ol sc : Addr} {n cur cur' : Nat} {t t' : Tok} {as : Nat → Addr} {os : Nat → Int} {Rk : Nat → Strm} {fk : Nat → Addr → Prop} {bb : Nat}
theorem MC.nx (H : MC P σ x ml ol sc n cur t as os Rk fk) : ml ≠ x ∧ ol ≠ x ∧ sc ≠ x := by
  obtain ⟨vm, h1, _⟩ := H.em
  obtain ⟨vo, h2, _⟩ := H.eo
  obtain ⟨fs, h3, _⟩ := H.es
  refine ⟨fun q => ?_, fun q => ?_, fun q => ?_⟩
  · rw [q, H.e] at h1; cases h1
  · rw [q, H.e] at h2; cases h2
  · rw [q, H.e] at h3; injection h3 with h3; injection h3 with h3; exact absurd h3 (by decide)
theorem MC.put (B : Kid bb P) (H : MC P σ x ml ol sc n cur t as os Rk fk) (l : cur ≤ cur') (l' : cur' ≤ n) : MC P (put σ x (nMulti ml ol sc cur' t')) x ml ol sc n cur' t' as os Rk fk where
  e := put_self _ _ _
  em := by obtain ⟨vm, h1, h2⟩ := H.em; exact ⟨vm, by rw [put_ne H.nx.1]; exact h1, h2⟩
  eo := by obtain ⟨vm, h1, h2⟩ := H.eo; exact ⟨vm, by rw [put_ne H.nx.2.1]; exact h1, h2⟩
  es := by obtain ⟨vm, h1, h2⟩ := H.es; exact ⟨vm, by rw [put_ne H.nx.2.2]; exact h1, h2⟩
  kids k h1 h2 := B.loc (H.kids k (Nat.le_trans l h1) h2) fun y hy => put_ne (H.off k y (Nat.le_trans l h1) h2 hy).1
  dis j k y h1 h2 h3 h4 := H.dis j k y (Nat.le_trans l h1) h2 (Nat.le_trans l h3) h4
  off k y h1 h2 := H.off k y (Nat.le_trans l h1) h2
  hn := H.hn
  hc := l'
  ord j k p q v v' h1 h2 h3 := H.ord j k p q v v' (Nat.le_trans l h1) h2 h3
/-- one kid turned -/
noncomputable def upF (Rk : Nat → Strm) (j : Nat) (R : Strm) : Nat → Strm := fun k => if k = j then R else Rk k
theorem MC.step (B : Kid bb P) (H : MC P σ x ml ol sc n cur t as os Rk fk) {R' : Strm} (hl : cur < n) (hP : P σ' (as cur) R' (fk cur)) (ho : Off (fk cur) σ σ') (hs : ∀ p v, R' p = some v → Rk cur p = some v) :
    MC P σ' x ml ol sc n cur t as os (upF Rk cur R') fk where
  e := by rw [ho x fun q => (H.off cur x (Nat.le_refl _) hl q).1 rfl]; exact H.e
  em := by obtain ⟨vm, h1, h2⟩ := H.em; exact ⟨vm, by rw [ho ml fun q => (H.off cur ml (Nat.le_refl _) hl q).2.1 rfl]; exact h1, h2⟩
  eo := by obtain ⟨vm, h1, h2⟩ := H.eo; exact ⟨vm, by rw [ho ol fun q => (H.off cur ol (Nat.le_refl _) hl q).2.2.1 rfl]; exact h1, h2⟩
  es := by obtain ⟨vm, h1, h2⟩ := H.es; exact ⟨vm, by rw [ho sc fun q => (H.off cur sc (Nat.le_refl _) hl q).2.2.2 rfl]; exact h1, h2⟩
  kids k h1 h2 := by
    unfold upF
    by_cases q : k = cur
    · subst q; rw [if_pos rfl]; exact hP
    · rw [if_neg q]; exact B.loc (H.kids k h1 h2) fun y hy => ho y fun z => q (H.dis k cur y h1 h2 (Nat.le_refl _) hl hy z)
  dis := H.dis
  off := H.off
  hn := H.hn
  hc := H.hc
  ord j k p q v v' h1 h2 h3 h4 h5 := by
    unfold upF at h4 h5
    rw [if_neg (by omega)] at h5
    by_cases z : j = cur
    · subst z; rw [if_pos rfl] at h4; exact H.ord _ _ _ _ _ _ h1 h2 h3 (hs _ _ h4) h5
    · rw [if_neg z] at h4; exact H.ord _ _ _ _ _ _ h1 h2 h3 h4 h5
/-- is_active -/
theorem r477 {b : Nat} (H : MC P σ x ml ol sc n cur t as os Rk fk) : Runs (b + 1) σ 477 [.ref x] [] fun v σ' => v = .bool (decide (cur < n)) ∧ σ = σ' := by
  obtain ⟨vm, h1, h2, _⟩ := H.em
  refine runs (binds := [(S "self", .ref x)]) f477 c477 (fun P s X => .of_eq (by rfl)) (by rfl) (by rfl) (by exact ⟨rfl, rfl, rfl⟩) fun c r => ?_
  repeat walk_at "g"
  refine x_fld a593current H.e rfl rfl ?_
  repeat walk_at "g"
  refine x_builtin b_len.1 b_len.2 (by decide) ?_
  refine x_cwb ?_
  repeat walk_at "g"
  refine x_fld a593matchers H.e rfl rfl ?_
  repeat walk_at "g"
  refine x_len_list h1 (by rw [h2]; exact H.hn) fun t => ?_
  repeat walk_at "g"
  refine ⟨?_, rfl⟩
  rw [h2]
  show Value.bool _ = _
  congr 1
  exact decide_eq_decide.mpr Int.ofNat_lt
/-- _next_matcher -/
theorem r498 (B : Kid bb P) (H : MC P σ x ml ol sc n cur t as os Rk fk) : Runs (bb + 1) σ 498 [.ref x] [] fun v σ' => v = .none ∧ ∃ (cur' : Nat) (t' : Tok), σ' = put σ x (nMulti ml ol sc cur' t') ∧ cur ≤ cur' ∧ cur' ≤ n ∧ (∀ k, cur ≤ k → k < cur' → ¬ Act (Rk k)) ∧ (cur' < n → Act (Rk cur')) := by
  obtain ⟨vm, h1, h2, h3⟩ := H.em
  refine runs (binds := [(S "self", .ref x)]) f498 c498 (fun P s X => .of_eq (by rfl)) (by rfl) (by rfl) (by exact ⟨rfl, rfl, rfl⟩) fun c r => ?_
  repeat walk_at "g"
  refine x_fld a593matchers H.e rfl rfl ?_
  repeat walk_at "g"
  refine x_while (fun k m' σ' => m' = upd (fun y => List.lookup y [(S "self", Value.ref x)].reverse) "matchers" (.ref ml) ∧ ∃ (j : Nat) (t' : Tok), σ' = put σ x (nMulti ml ol sc j t') ∧ cur ≤ j ∧ j ≤ n ∧ (∀ k, cur ≤ k → k < j → ¬ Act (Rk k)) ∧ k = n - j) (n - cur)
    ⟨rfl, cur, t, (put_same H.e).symm, Nat.le_refl _, H.hc, fun k a b => absurd b (by omega), rfl⟩ ?_
  rintro k m' σ' ⟨rfl, j, t', rfl, k1, k2, k3, k4⟩ Q0 hN hBk hRt
  have H2 := H.put (t' := t') B k1 k2
  obtain ⟨vm2, h1', _⟩ := H2.em
  have h1 : Mine.put σ x (nMulti ml ol sc j t') ml = some (.list vm) := by rw [put_ne H.nx.1]; exact h1
  repeat walk_at "g"
  refine x_fld a593current H2.e rfl rfl ?_
  repeat walk_at "g"
  refine x_builtin b_len.1 b_len.2 (by decide) ?_
  refine x_cwb ?_
  repeat walk_at "g"
  refine x_len_list h1 (by rw [h2]; exact H.hn) fun t => ?_
  repeat walk_at "g"
  by_cases hj : j < n
  · refine ite_yes (decide_eq_true (by rw [h2]; omega)) ?_
    repeat walk_at "g"
    refine x_fld a593current H2.e rfl rfl ?_
    have := H.hn
    refine x_list_item h1 (Int.natCast_nonneg _) (by omega) (by rw [Int.toNat_natCast]; exact h3 j hj) ?_
    refine x_act (B.act (H2.kids j (Nat.le_refl _) hj)) r fun ac hac => ?_
    repeat walk_at "g"
    cases ac with
    | false =>
      refine ite_yes rfl ?_
      repeat walk_at "g"
      refine ite_yes rfl ?_
      repeat walk_at "g"
      refine x_fld a593current H2.e rfl rfl ?_
      repeat walk_at "g"
      intro t5
      repeat walk_at "g"
      intro t6
      refine x_set a593current H2.e (Nat.le_of_ble_eq_true rfl) rfl ?_
      dsimp only
      repeat walk_at "g"
      refine hN (n - (j + 1)) _ _ (by omega) ⟨rfl, j + 1, t6, put_put _ _ _ _, by omega, hj, fun k a b => ?_, rfl⟩
      by_cases q : k = j
      · subst q; exact fun z => absurd (hac.mpr z) (by decide)
      · exact k3 k a (by omega)
    | true =>
      refine ite_no (by decide) ?_
      refine ite_no (by decide) ?_
      repeat walk_at "g"
      exact ⟨rfl, j, t', rfl, k1, k2, k3, fun _ => hac.mp rfl⟩
  · refine ite_no (by rw [decide_eq_false (by rw [h2]; omega)]; decide) ?_
    refine ite_no (by decide) ?_
    repeat walk_at "g"
    exact ⟨rfl, j, t', rfl, k1, k2, k3, fun z => absurd z hj⟩
end
inductive MRep (P : RepT) (σ : AH) (x : Addr) (R : Strm) (fp : Addr → Prop) : Prop
  | mk (ml ol sc : Addr) (n cur : Nat) (t : Tok) (as : Nat → Addr) (os : Nat → Int) (Rk : Nat → Strm) (fk : Nat → Addr → Prop) (h1 : MC P σ x ml ol sc n cur t as os Rk fk) (h2 : (cur < n → Act (Rk cur))) (h3 : (∀ p v, R p = some v ↔ ∃ k, cur ≤ k ∧ k < n ∧ Rk k (p - os k) = some v)) (h4 : fp x) (h5 : fp ml) (h6 : fp ol) (h7 : fp sc) (h8 : (∀ k y, cur ≤ k → k < n → fk k y → fp y)) (h9 : ∀ y, fp y → σ y ≠ none) : MRep P σ x R fp
section
variable {P : RepT} {σ σ' : AH} {x ml ol sc : Addr} {n cur cur' : Nat} {t t' : Tok} {as : Nat → Addr} {os : Nat → Int} {Rk : Nat → Strm} {fk : Nat → Addr → Prop} {bb : Nat} {R : Strm} {fp : Addr → Prop}
theorem upF_self (Rk : Nat → Strm) (j : Nat) : upF Rk j (Rk j) = Rk := by
  funext k; unfold upF; split
  · rename_i q; rw [q]
  · rfl
theorem MC.head (H : MC P σ x ml ol sc n cur t as os Rk fk) (ha : cur < n → Act (Rk cur)) (hR : ∀ p v, R p = some v ↔ ∃ k, cur ≤ k ∧ k < n ∧ Rk k (p - os k) = some v) {i w : Int} (h : Hdd R i w) :
    cur < n ∧ Hdd (Rk cur) (i - os cur) w := by
  obtain ⟨k, k1, k2, k3⟩ := (hR i w).mp h.1
  have hl : cur < n := by omega
  refine ⟨hl, ?_⟩
  have key : k = cur := by
    rcases Nat.eq_or_lt_of_le k1 with e | l
    · exact e.symm
    · obtain ⟨p, v, hp⟩ := ha hl
      have a := H.ord cur k p (i - os k) v w (Nat.le_refl _) l k2 hp k3
      have c := (hR (p + os cur) v).mpr ⟨cur, Nat.le_refl _, hl, by rw [Int.add_sub_cancel]; exact hp⟩
      rw [h.2 _ (by omega)] at c; cases c
  subst key
  refine ⟨k3, fun j hj => ?_⟩
  rcases z : Rk k j with _ | v
  · rfl
  · have c := (hR (j + os k) v).mpr ⟨k, Nat.le_refl _, hl, by rw [Int.add_sub_cancel]; exact z⟩
    rw [h.2 _ (by omega)] at c; cases c
theorem MC.actR (ha : cur < n → Act (Rk cur)) (hR : ∀ p v, R p = some v ↔ ∃ k, cur ≤ k ∧ k < n ∧ Rk k (p - os k) = some v) : cur < n ↔ Act R := by
  constructor
  · intro h
    obtain ⟨p, v, hp⟩ := ha h
    exact ⟨p + os cur, v, (hR _ _).mpr ⟨cur, Nat.le_refl _, h, by rw [Int.add_sub_cancel]; exact hp⟩⟩
  · rintro ⟨i, w, h⟩
    obtain ⟨k, k1, k2, _⟩ := (hR _ _).mp h
    omega
theorem dom_step (B : Kid bb P) {g : Addr → Prop} {a : Addr} {R' : Strm} (hd : ∀ y, fp y → σ y ≠ none) (hP : P σ' a R' g) (ho : Off g σ σ') : ∀ y, fp y → σ' y ≠ none := fun y hy => by
  by_cases q : g y
  · exact B.dom hP q
  · rw [ho y q]; exact hd y hy
theorem dom_put {n : Node} (hd : ∀ y, fp y → σ y ≠ none) : ∀ y, fp y → put σ x n y ≠ none := fun y hy => by
  unfold put; split
  · exact fun h => nomatch h
  · exact hd y hy
/-- the present kid asked, its stream as it was -/
theorem MC.asked (B : Kid bb P) (H : MC P σ x ml ol sc n cur t as os Rk fk) (hl : cur < n) (hP : P σ' (as cur) (Rk cur) (fk cur)) (ho : Off (fk cur) σ σ') : MC P σ' x ml ol sc n cur t as os Rk fk := by
  have := H.step B hl hP ho fun _ _ h => h
  rwa [upF_self] at this
/-- id -/
theorem r527 (B : Kid bb P) (H : MC P σ x ml ol sc n cur t as os Rk fk) (hl : cur < n) {i w : Int} (h : Hdd (Rk cur) (i - os cur) w) :
    Runs (bb + 1) σ 527 [.ref x] [] fun v σ' => (∃ t, v = .int i t) ∧ P σ' (as cur) (Rk cur) (fk cur) ∧ Off (fk cur) σ σ' := by
  obtain ⟨vm, h1, h2, h3⟩ := H.em
  have hn := H.hn
  refine runs (binds := [(S "self", .ref x)]) f527 c527 (fun P s X => .of_eq (by rfl)) (by rfl) (by rfl) (by exact ⟨rfl, rfl, rfl⟩) fun c r => ?_
  repeat walk_at "g"
  refine x_fld a593current H.e rfl rfl ?_
  repeat walk_at "g"
  refine x_fld a593matchers H.e rfl rfl ?_
  repeat walk_at "g"
  refine x_list_item h1 (Int.natCast_nonneg _) (by omega) (by rw [Int.toNat_natCast]; exact h3 cur hl) ?_
  refine x_val0 (B.id (H.kids cur (Nat.le_refl _) hl) h) r fun t1 σ' hP ho => ?_
  have H2 := H.asked B hl hP ho
  obtain ⟨vo, g1, g2, g3⟩ := H2.eo
  repeat walk_at "g"
  refine x_fld a593offsets H2.e rfl rfl ?_
  repeat walk_at "g"
  obtain ⟨t2, g4⟩ := g3 cur hl
  refine x_list_item g1 (Int.natCast_nonneg _) (by omega) (by rw [Int.toNat_natCast]; exact g4) ?_
  repeat walk_at "g"
  intro t3
  exact ⟨⟨t3, by show Value.int _ _ = _; rw [Int.sub_add_cancel]⟩, hP, ho⟩
/-- weight -/
theorem r583 (B : Kid bb P) (H : MC P σ x ml ol sc n cur t as os Rk fk) (hl : cur < n) {i w : Int} (h : Hdd (Rk cur) i w) :
    Runs (bb + 1) σ 583 [.ref x] [] fun v σ' => (∃ t, v = .int w t) ∧ P σ' (as cur) (Rk cur) (fk cur) ∧ Off (fk cur) σ σ' := by
  obtain ⟨vm, h1, h2, h3⟩ := H.em
  have hn := H.hn
  refine runs (binds := [(S "self", .ref x)]) f583 c583 (fun P s X => .of_eq (by rfl)) (by rfl) (by rfl) (by exact ⟨rfl, rfl, rfl⟩) fun c r => ?_
  repeat walk_at "g"
  refine x_fld a593matchers H.e rfl rfl ?_
  repeat walk_at "g"
  refine x_fld a593current H.e rfl rfl ?_
  refine x_list_item h1 (Int.natCast_nonneg _) (by omega) (by rw [Int.toNat_natCast]; exact h3 cur hl) ?_
  obtain ⟨f, hf, hr⟩ := B.weight (H.kids cur (Nat.le_refl _) hl) h
  refine x_do0 hf hr r fun v σ' q => ?_
  exact q
/-- WeightScorer.score -/
theorem r1153 {y f : Addr} {QQ : Value → AH → Prop} (hf : Has σ y "weight" f) (hr : Runs bb σ f [.ref y] [] QQ) : Runs (bb + 1) σ 1153 [.ref x, .ref y] [] QQ := by
  refine runs (binds := [(S "self", .ref x), (S "matcher", .ref y)]) f1153 c1153 (fun P s X => .of_eq (by rfl)) (by rfl) (by rfl) (by exact ⟨rfl, rfl, rfl⟩) fun c r => ?_
  repeat walk_at "g"
  exact x_do0 hf hr r fun v σ' q => q
/-- score -/
theorem r590 (B : Kid bb P) (H : MC P σ x ml ol sc n cur t as os Rk fk) (hl : cur < n) {i w : Int} (h : Hdd (Rk cur) i w) :
    Runs (bb + 3) σ 590 [.ref x] [] fun v σ' => (∃ t, v = .int w t) ∧ P σ' (as cur) (Rk cur) (fk cur) ∧ Off (fk cur) σ σ' := by
  obtain ⟨fs, h1, h2⟩ := H.es
  refine runs (binds := [(S "self", .ref x)]) f590 c590 (fun P s X => .of_eq (by rfl)) (by rfl) (by rfl) (by exact ⟨rfl, rfl, rfl⟩) fun c r => ?_
  repeat walk_at "g"
  refine x_fld a593scorer H.e rfl rfl ?_
  refine x_do1 ⟨_, _, h1, h2, m1170_score⟩ ?_ (by with_unfolding_all rfl)
  repeat walk_at "g"
  exact x_runs (r1153 ⟨_, _, H.e, rfl, m593_weight⟩ (r583 B H hl h)) r fun v σ' q => q
end
inductive P555 (P : RepT) (σ : AH) (x ml ol sc : Addr) (n cur : Nat) (as : Nat → Addr) (os : Nat → Int) (fk : Nat → Addr → Prop) (fp : Addr → Prop) (g : Int) (R : Strm) (v : Value) (σ' : AH) : Prop
  | mk (h1 : Back v) (cur' : Nat) (t' : Tok) (Rk' : Nat → Strm) (h2 : MC P σ' x ml ol sc n cur' t' as os Rk' fk) (h3 : cur ≤ cur') (h4 : (cur' < n → Act (Rk' cur'))) (h5 : (∀ p v, cut g R p = some v ↔ ∃ k, cur' ≤ k ∧ k < n ∧ Rk' k (p - os k) = some v)) (h6 : Off fp σ σ') (h7 : ∀ y, fp y → σ' y ≠ none) : P555 P σ x ml ol sc n cur as os fk fp g R v σ'
inductive I555 (P : RepT) (σ : AH) (x ml ol sc : Addr) (n cur : Nat) (as : Nat → Addr) (os : Nat → Int) (fk : Nat → Addr → Prop) (fp : Addr → Prop) (g : Int) (u : Tok) (R : Strm) (k : Nat) (m' : Lc) (σ' : AH) : Prop
  | mk (h1 : m' "self" = some (.ref x)) (h2 : m' "id" = some (.int g u)) (h3 : m' "matchers" = some (.ref ml)) (h4 : m' "offsets" = some (.ref ol)) (h5 : (∃ rv, m' "r" = some rv ∧ Back rv)) (cur' : Nat) (t' : Tok) (Rk' : Nat → Strm) (h6 : MC P σ' x ml ol sc n cur' t' as os Rk' fk) (h7 : cur ≤ cur') (h8 : (cur' < n → Act (Rk' cur'))) (h9 : (∀ p v, cut g R p = some v ↔ g ≤ p ∧ ∃ k, cur' ≤ k ∧ k < n ∧ Rk' k (p - os k) = some v)) (h10 : Off fp σ σ') (h11 : (∀ y, fp y → σ' y ≠ none)) (h12 : k = n - cur') : I555 P σ x ml ol sc n cur as os fk fp g u R k m' σ'
section
variable {P : RepT} {σ σ' : AH} {x ml ol sc : Addr} {n cur cur' : Nat} {t t' : Tok} {as : Nat → Addr} {os : Nat → Int} {Rk : Nat → Strm} {fk : Nat → Addr → Prop} {bb : Nat} {R : Strm} {fp : Addr → Prop}
theorem Back.ne {v : Value} (h : Back v) (a : Addr) : v ≠ .ref a := by
  rcases h with rfl | ⟨t, rfl⟩ <;> exact fun h => nomatch h
theorem x_or2 {c : Cx} {m : Lc} {σ : AH} {env : Env} {e1 e2 : Expr} {pos : Pos} {Q : Value → Lc → AH → Prop} (h : XV c m σ (eval e1 env) fun v m1 σ1 => XV c m1 σ1 (truthy v) fun t m2 σ2 => if t then Q v m2 σ2 else XV c m2 σ2 (eval e2 env) Q) :
    XV c m σ (eval (.BoolOp .Or [e1, e2] pos) env) Q := x_boolop (x_boolop_or (x := eval e1 env) (y := eval e2 env) (rest := []) h)
theorem x_or3 {c : Cx} {m : Lc} {σ : AH} {env : Env} {e1 e2 e3 : Expr} {pos : Pos} {Q : Value → Lc → AH → Prop} (h : XV c m σ (eval e1 env) fun v m1 σ1 => XV c m1 σ1 (truthy v) fun t m2 σ2 => if t then Q v m2 σ2 else
      XV c m2 σ2 (eval e2 env) fun v m1 σ1 => XV c m1 σ1 (truthy v) fun t m2 σ2 => if t then Q v m2 σ2 else XV c m2 σ2 (eval e3 env) Q) :
    XV c m σ (eval (.BoolOp .Or [e1, e2, e3] pos) env) Q := x_boolop (x_boolop_or (x := eval e1 env) (y := eval e2 env) (rest := [eval e3 env]) (x_mono h fun v m1 σ1 q => x_mono q fun t m2 σ2 z => by
      cases t with
      | true => exact z
      | false => exact x_boolop_or (x := eval e2 env) (y := eval e3 env) (rest := []) z))
theorem x_truthy_back {c : Cx} {m : Lc} {σ : AH} {v : Value} {Q : Bool → Lc → AH → Prop} (h : Back v) (k : ∀ b, Q b m σ) : XV c m σ (truthy v) Q := by
  rcases h with rfl | ⟨t, rfl⟩
  · exact x_truthy_none (k _)
  · exact x_truthy_bool (k _)
/-- a or b, both told by values that are None or a bool -/
theorem x_or2b {c : Cx} {m : Lc} {σ : AH} {env : Env} {e1 e2 : Expr} {pos : Pos} {v1 v2 : Value} {Q : Value → Lc → AH → Prop} (b1 : Back v1) (b2 : Back v2) (k : ∀ v, Back v → Q v m σ)
    (h1 : XV c m σ (eval e1 env) fun v m1 σ1 => m1 = m ∧ σ1 = σ ∧ v = v1) (h2 : XV c m σ (eval e2 env) fun v m1 σ1 => m1 = m ∧ σ1 = σ ∧ v = v2) : XV c m σ (eval (.BoolOp .Or [e1, e2] pos) env) Q :=
  x_or2 (x_mono h1 fun v m1 σ1 ⟨e1, e2, e3⟩ => by
    subst e1 e2 e3
    refine x_truthy_back b1 fun b => ?_
    cases b with
    | true => exact k _ b1
    | false => exact x_mono h2 fun v m1 σ1 ⟨e1, e2, e3⟩ => by subst e1 e2 e3; exact k _ b2)
theorem x_or3b {c : Cx} {m : Lc} {σ : AH} {env : Env} {e1 e2 e3 : Expr} {pos : Pos} {v1 v2 v3 : Value} {Q : Value → Lc → AH → Prop} (b1 : Back v1) (b2 : Back v2) (b3 : Back v3) (k : ∀ v, Back v → Q v m σ)
    (h1 : XV c m σ (eval e1 env) fun v m1 σ1 => m1 = m ∧ σ1 = σ ∧ v = v1) (h2 : XV c m σ (eval e2 env) fun v m1 σ1 => m1 = m ∧ σ1 = σ ∧ v = v2) (h3 : XV c m σ (eval e3 env) fun v m1 σ1 => m1 = m ∧ σ1 = σ ∧ v = v3) : XV c m σ (eval (.BoolOp .Or [e1, e2, e3] pos) env) Q :=
  x_or3 (x_mono h1 fun v m1 σ1 ⟨e1, e2, e3⟩ => by
    subst e1 e2 e3
    refine x_truthy_back b1 fun b => ?_
    cases b with
    | true => exact k _ b1
    | false =>
      exact x_mono h2 fun v m1 σ1 ⟨e1, e2, e3⟩ => by
        subst e1 e2 e3
        refine x_truthy_back b2 fun b => ?_
        cases b with
        | true => exact k _ b2
        | false => exact x_mono h3 fun v m1 σ1 ⟨e1, e2, e3⟩ => by subst e1 e2 e3; exact k _ b3)
/-- next -/
theorem r548 (B : Kid bb P) (H : MC P σ x ml ol sc n cur t as os Rk fk) (hl : cur < n) {i w : Int} (h : Hdd (Rk cur) i w) :
    Runs (bb + 2) σ 548 [.ref x] [] fun v σ' => v = .none ∧ ∃ (cur' : Nat) (t' : Tok) (σ1 : AH), MC P σ' x ml ol sc n cur' t' as os (upF Rk cur (cut (i + 1) (Rk cur))) fk ∧ cur ≤ cur' ∧ (∀ k, cur ≤ k → k < cur' → ¬ Act (upF Rk cur (cut (i + 1) (Rk cur)) k)) ∧ (cur' < n → Act (upF Rk cur (cut (i + 1) (Rk cur)) cur')) ∧
      P σ1 (as cur) (cut (i + 1) (Rk cur)) (fk cur) ∧ Off (fk cur) σ σ1 ∧ (σ' = σ1 ∨ σ' = put σ1 x (nMulti ml ol sc cur' t')) := by
  obtain ⟨vm, h1, h2, h3⟩ := H.em
  have hn := H.hn
  refine runs (binds := [(S "self", .ref x)]) f548 c548 (fun P s X => .of_eq (by rfl)) (by rfl) (by rfl) (by exact ⟨rfl, rfl, rfl⟩) fun c r => ?_
  repeat walk_at "g"
  refine x_do0 ⟨_, _, H.e, rfl, m593_is_active⟩ (r477 H) r fun v σ' q => ?_
  obtain ⟨rfl, rfl⟩ := q
  repeat walk_at "g"
  refine ite_no (by rw [decide_eq_true hl]; decide) ?_
  repeat walk_at "g"
  refine x_fld a593matchers H.e rfl rfl ?_
  repeat walk_at "g"
  refine x_fld a593current H.e rfl rfl ?_
  refine x_list_item h1 (Int.natCast_nonneg _) (by omega) (by rw [Int.toNat_natCast]; exact h3 cur hl) ?_
  obtain ⟨f, hf, hr⟩ := B.next (H.kids cur (Nat.le_refl _) hl) h
  refine x_do0 hf hr (r.mono (Nat.le_succ _)) fun v σ' q => ?_
  obtain ⟨hv, hP, ho⟩ := q
  refine ⟨hv.ne, ?_⟩
  have H2 := H.step B hl hP ho fun p v e => (cut_some.mp e).2
  obtain ⟨vm, h1, h2, h3⟩ := H2.em
  repeat walk_at "g"
  refine x_fld a593matchers H2.e rfl rfl ?_
  repeat walk_at "g"
  refine x_fld a593current H2.e rfl rfl ?_
  refine x_list_item h1 (Int.natCast_nonneg _) (by omega) (by rw [Int.toNat_natCast]; exact h3 cur hl) ?_
  obtain ⟨f2, hf2, hr2⟩ := B.act (H2.kids cur (Nat.le_refl _) hl)
  refine x_do0 hf2 hr2 (r.mono (Nat.le_succ _)) fun v σ2 q => ?_
  obtain ⟨⟨ac, rfl, hac⟩, rfl⟩ := q
  repeat walk_at "g"
  cases ac with
  | true =>
    refine ite_no (by decide) ?_
    repeat walk_at "g"
    exact ⟨rfl, cur, t, σ', H2, Nat.le_refl _, fun k a b => absurd b (by omega), fun _ => hac.mp rfl, hP, ho, .inl rfl⟩
  | false =>
    refine ite_yes rfl ?_
    repeat walk_at "g"
    refine x_do0 ⟨_, _, H2.e, rfl, m593__next_matcher⟩ (r498 B H2) r fun v σ2 q => ?_
    obtain ⟨rfl, cur', t', rfl, k1, k2, k3, k4⟩ := q
    refine ⟨fun a => (nomatch ·), ?_⟩
    repeat walk_at "g"
    exact ⟨rfl, cur', t', σ', H2.put B k1 k2, k1, k3, k4, hP, ho, .inr rfl⟩
theorem multi_adv (k3 : ∀ k, cur ≤ k → k < cur' → ¬ Act (Rk k)) (l : cur ≤ cur') (p v : Int) : (∃ k, cur ≤ k ∧ k < n ∧ Rk k (p - os k) = some v) ↔ ∃ k, cur' ≤ k ∧ k < n ∧ Rk k (p - os k) = some v := by
  constructor
  · rintro ⟨k, a, b, c⟩
    refine ⟨k, ?_, b, c⟩
    by_cases q : k < cur'
    · exact (k3 k a q ⟨_, _, c⟩).elim
    · omega
  · rintro ⟨k, a, b, c⟩
    exact ⟨k, by omega, b, c⟩
/-- the stream cut, kid by kid: the present one is cut, the later ones lie behind the cut -/
theorem MC.cutR (H : MC P σ x ml ol sc n cur t as os Rk fk) {g : Int} (hl : cur < n) (hg : ∀ k q v, cur < k → k < n → Rk k q = some v → g ≤ q + os k) (hR : ∀ p v, R p = some v ↔ ∃ k, cur ≤ k ∧ k < n ∧ Rk k (p - os k) = some v) (p v : Int) :
    cut g R p = some v ↔ ∃ k, cur ≤ k ∧ k < n ∧ upF Rk cur (cut (g - os cur) (Rk cur)) k (p - os k) = some v := by
  rw [cut_some, hR]
  constructor
  · rintro ⟨a, k, k1, k2, k3⟩
    refine ⟨k, k1, k2, ?_⟩
    unfold upF
    by_cases q : k = cur
    · subst q; rw [if_pos rfl]; exact cut_some.mpr ⟨by omega, k3⟩
    · rw [if_neg q]; exact k3
  · rintro ⟨k, k1, k2, k3⟩
    unfold upF at k3
    by_cases q : k = cur
    · subst q; rw [if_pos rfl] at k3
      have := cut_some.mp k3
      exact ⟨by omega, k, k1, k2, this.2⟩
    · rw [if_neg q] at k3
      have := hg k _ v (by omega) k2 k3
      exact ⟨by omega, k, k1, k2, k3⟩
/-- skip_to -/
theorem r555 (B : Kid bb P) (H : MC P σ x ml ol sc n cur t as os Rk fk) (ha : cur < n → Act (Rk cur)) (hR : ∀ p v, R p = some v ↔ ∃ k, cur ≤ k ∧ k < n ∧ Rk k (p - os k) = some v) (hx : fp x) (hk : ∀ k y, cur ≤ k → k < n → fk k y → fp y) (hd : ∀ y, fp y → σ y ≠ none) (hl : cur < n) (hB : Bdd R) (g : Int) (u : Tok) :
    Runs (bb + 2) σ 555 [.ref x, .int g u] [] (P555 P σ x ml ol sc n cur as os fk fp g R) := by
  have hn := H.hn
  refine runs (binds := [(S "self", .ref x), (S "id", .int g u)]) f555 c555 (fun P s X => .of_eq (by rfl)) (by rfl) (by rfl) (by exact ⟨rfl, rfl, rfl⟩) fun c r => ?_
  repeat walk_at "g"
  refine x_do0 ⟨_, _, H.e, rfl, m593_is_active⟩ (r477 H) r fun v σ' q => ?_
  obtain ⟨rfl, rfl⟩ := q
  repeat walk_at "g"
  refine ite_no (by rw [decide_eq_true hl]; decide) ?_
  repeat walk_at "g"
  obtain ⟨i, w, hi⟩ := hB.head ((MC.actR ha hR).mp hl)
  have hh := H.head ha hR hi
  refine x_do0 ⟨_, _, H.e, rfl, m593_id⟩ (r527 B H hl hh.2) r fun v σ1 q => ?_
  obtain ⟨⟨t1, rfl⟩, hP, ho⟩ := q
  have H1 := H.asked B hl hP ho
  have d1 := dom_step B hd hP ho
  have o1 : Off fp σ σ1 := ho.mono fun y => hk cur y (Nat.le_refl _) hl
  repeat walk_at "g"
  by_cases hg : g ≤ i
  · refine ite_yes (decide_eq_true hg) ?_
    repeat walk_at "g"
    exact ⟨.inl rfl, cur, t, Rk, H1, Nat.le_refl _, ha, by rw [cut_id hi hg]; exact hR, o1, d1⟩
  refine ite_no (by rw [decide_eq_false hg]; decide) ?_
  repeat walk_at "g"
  refine x_fld a593matchers H1.e rfl rfl ?_
  repeat walk_at "g"
  refine x_fld a593offsets H1.e rfl rfl ?_
  repeat walk_at "g"
  refine x_while (fun k m' σ' => I555 P σ x ml ol sc n cur as os fk fp g u R k m' σ') (n - cur)
    ⟨rfl, rfl, rfl, rfl, ⟨_, rfl, .inr ⟨_, rfl⟩⟩, cur, t, Rk, H1, Nat.le_refl _, ha, fun p v => by rw [cut_some, hR], o1, d1, rfl⟩ ?_
  rintro k m' σ' ⟨m1, m2, m3, m4, ⟨rv, m5, hrv⟩, cur', t', Rk', H2, l2, ha2, hR2, o2, d2, rfl⟩ Q0 hN hBk hRt
  obtain ⟨vm, h1, h2, h3⟩ := H2.em
  repeat walk_at "g"
  refine x_fld a593current H2.e rfl rfl ?_
  repeat walk_at "g"
  refine x_builtin b_len.1 b_len.2 (by decide) ?_
  refine x_cwb ?_
  repeat walk_at "g"
  refine x_len_list h1 (by rw [h2]; exact H.hn) fun t => ?_
  repeat walk_at "g"
  by_cases hj : cur' < n
  · refine ite_yes (decide_eq_true (by rw [h2]; omega)) ?_
    obtain ⟨i0, w2, hi0⟩ := (B.bdd (H2.kids cur' (Nat.le_refl _) hj)).head (ha2 hj)
    obtain ⟨i2, hi2⟩ : ∃ i2, i2 = i0 + os cur' := ⟨_, rfl⟩
    have hh2 : Hdd (Rk' cur') (i2 - os cur') w2 := by rw [hi2, Int.add_sub_cancel]; exact hi0
    repeat walk_at "g"
    refine x_do0 ⟨_, _, H2.e, rfl, m593_id⟩ (r527 B H2 hj hh2) r fun v σ2 q => ?_
    obtain ⟨⟨t2, rfl⟩, hP2, ho2⟩ := q
    have H3 := H2.asked B hj hP2 ho2
    have d3 := dom_step B d2 hP2 ho2
    have o3 : Off fp σ σ2 := o2.trans (ho2.mono fun y => hk cur' y l2 hj)
    repeat walk_at "g"
    by_cases hg2 : g > i2
    · refine ite_yes (decide_eq_true hg2) ?_
      repeat walk_at "g"
      refine ite_yes rfl ?_
      obtain ⟨vm3, p1, p2, p3⟩ := H3.em
      obtain ⟨vo3, q1, q2, q3⟩ := H3.eo
      repeat walk_at "g"
      refine x_fld a593current H3.e rfl rfl ?_
      refine x_list_item p1 (Int.natCast_nonneg _) (by omega) (by rw [Int.toNat_natCast]; exact p3 cur' hj) ?_
      obtain ⟨f, hf, hr⟩ := B.skip (H3.kids cur' (Nat.le_refl _) hj) (ha2 hj)
      repeat walk_at "g"
      refine x_do1 hf ?_ (by with_unfolding_all rfl)
      repeat walk_at "g"
      refine x_fld a593current H3.e rfl rfl ?_
      obtain ⟨t4, q4⟩ := q3 cur' hj
      refine x_list_item q1 (Int.natCast_nonneg _) (by omega) (by rw [Int.toNat_natCast]; exact q4) ?_
      repeat walk_at "g"
      intro t5
      refine x_runs (hr _ _) (r.mono (Nat.le_succ _)) fun v σ4 q => ?_
      obtain ⟨hv, hP4, ho4⟩ := q
      have H4 := H3.step B hj hP4 ho4 fun p v e => (cut_some.mp e).2
      have d4 := dom_step B d3 hP4 ho4
      have o4 : Off fp σ σ4 := o3.trans (ho4.mono fun y => hk cur' y l2 hj)
      walk_at "g"
      walk_at "g"
      walk_at "g"
      refine x_or2b hv hrv (fun rv' hrv' => ?_) (by repeat walk_at "g"; exact ⟨rfl, rfl, rfl⟩) (by repeat walk_at "g"; exact ⟨rfl, rfl, rfl⟩)
      repeat walk_at "g"
      obtain ⟨f5, hf5, hr5⟩ := B.act (H4.kids cur' (Nat.le_refl _) hj)
      refine x_do0 hf5 hr5 (r.mono (Nat.le_succ _)) fun v σ5 q => ?_
      obtain ⟨⟨ac, rfl, hac⟩, rfl⟩ := q
      have e4 : upF Rk' cur' (cut (g - os cur') (Rk' cur')) cur' = cut (g - os cur') (Rk' cur') := if_pos rfl
      repeat walk_at "g"
      have later : ∀ k q v, cur' < k → k < n → Rk' k q = some v → Act (cut (g - os cur') (Rk' cur')) → g ≤ q + os k := fun k q v a b e ⟨p', v', z⟩ => by
        have z := cut_some.mp z
        have := H3.ord cur' k p' q v' v (Nat.le_refl _) a b z.2 e
        omega
      cases ac with
      | true =>
        refine ite_yes rfl ?_
        repeat walk_at "g"
        have hA : Act (cut (g - os cur') (Rk' cur')) := by have := hac.mp rfl; rwa [e4] at this
        refine hBk _ _ ?_
        repeat walk_at "g"
        refine ⟨hrv', cur', t', _, H4, l2, fun _ => by rw [e4]; exact hA, fun p v => ?_, o4, d4⟩
        rw [hR2]
        constructor
        · rintro ⟨z, k, a, b, e⟩
          refine ⟨k, a, b, ?_⟩
          unfold upF
          by_cases q : k = cur'
          · subst q; rw [if_pos rfl]; exact cut_some.mpr ⟨by omega, e⟩
          · rw [if_neg q]; exact e
        · rintro ⟨k, a, b, e⟩
          unfold upF at e
          by_cases q : k = cur'
          · subst q; rw [if_pos rfl] at e
            have e := cut_some.mp e
            exact ⟨by omega, k, a, b, e.2⟩
          · rw [if_neg q] at e
            have := later k _ v (by omega) b e hA
            exact ⟨by omega, k, a, b, e⟩
      | false =>
        refine ite_no (by decide) ?_
        have hA : ¬ Act (cut (g - os cur') (Rk' cur')) := fun z => by rw [e4] at hac; exact absurd (hac.mpr z) (by decide)
        repeat walk_at "g"
        refine x_do0 ⟨_, _, H4.e, rfl, m593__next_matcher⟩ (r498 B H4) r fun v σ6 q => ?_
        obtain ⟨rfl, cur6, t6, rfl, k1, k2, k3, k4⟩ := q
        refine ⟨fun a => (nomatch ·), ?_⟩
        repeat walk_at "g"
        have l6 : cur' < cur6 := by
          rcases Nat.eq_or_lt_of_le k1 with e | l
          · subst e; exact (hA (by have := k4 hj; rwa [e4] at this)).elim
          · exact l
        -- what is left: the kids from cur6 on
        refine hN (n - cur6) _ _ (by omega) ⟨m1, m2, m3, m4, ⟨rv', rfl, hrv'⟩, cur6, t6, _, H4.put B k1 k2, by omega, k4, fun p v => ?_, o4.trans (Off.put hx), dom_put d4, rfl⟩
        rw [hR2]
        refine and_congr_right fun hgp => ?_
        constructor
        · rintro ⟨k, a, b, e⟩
          have hk1 : k ≠ cur' := fun q => by
            subst q
            exact hA ⟨_, _, cut_some.mpr ⟨by omega, e⟩⟩
          have e' : upF Rk' cur' (cut (g - os cur') (Rk' cur')) k (p - os k) = some v := by unfold upF; rw [if_neg hk1]; exact e
          refine ⟨k, ?_, b, e'⟩
          by_cases q : k < cur6
          · exact (k3 k a q ⟨_, _, e'⟩).elim
          · omega
        · rintro ⟨k, a, b, e⟩
          unfold upF at e
          rw [if_neg (by omega)] at e
          exact ⟨k, by omega, b, e⟩
    · refine ite_no (by rw [decide_eq_false hg2]; decide) ?_
      repeat walk_at "g"
      refine ite_no (by decide) ?_
      repeat walk_at "g"
      refine ⟨hrv, cur', t', Rk', H3, l2, ha2, fun p v => ?_, o3, d3⟩
      rw [hR2]
      constructor
      · exact fun z => z.2
      · rintro ⟨k, a, b, e⟩
        refine ⟨?_, k, a, b, e⟩
        have hle : i2 ≤ p := by
          rcases Nat.eq_or_lt_of_le a with q | l
          · subst q; have := hh2.le e; omega
          · have := H3.ord cur' k _ _ w2 v (Nat.le_refl _) l b hh2.1 e; omega
        omega
  · refine ite_no (by rw [decide_eq_false (by rw [h2]; omega)]; decide) ?_
    refine ite_no (by decide) ?_
    repeat walk_at "g"
    refine ⟨hrv, cur', t', Rk', H2, l2, ha2, fun p v => ?_, o2, d2⟩
    rw [hR2]
    exact ⟨fun z => z.2, fun ⟨k, a, b, _⟩ => absurd b (by omega)⟩
end
section
variable {P : RepT} {σ σ' : AH} {x ml ol sc : Addr} {n cur cur' : Nat} {t t' : Tok} {as : Nat → Addr} {os : Nat → Int} {Rk : Nat → Strm} {fk : Nat → Addr → Prop} {bb : Nat} {R : Strm} {fp : Addr → Prop}
/-- replace -/
theorem r520 {b : Nat} (H : MC P σ x ml ol sc n cur t as os Rk fk) (hl : cur < n) :
    Runs (b + 2) σ 520 [.ref x] [] (fun v σ' => v = .ref x ∧ σ = σ') ∧ ∀ u, Runs (b + 2) σ 520 [.ref x, .int 0 u] [] (fun v σ' => v = .ref x ∧ σ = σ') := by
  have key : ∀ (c : Cx) u, Room c.A (b + 1) → XV c (fun y => List.lookup y [(S "self", Value.ref x), (S "minquality", Value.int 0 u)].reverse) σ (execs (Hd.fBody (Hd.subOf Hd.pw 9 7)) (envX "MultiMatcher.replace" (Hd.fScope (Hd.subOf Hd.pw 9 7)) c.L 520 (.ref 519) []))
      fun fl _ σ' => retv fl = .ref x ∧ σ = σ' := by
    intro c u r
    repeat walk_at "g"
    refine ite_no (by decide) ?_
    repeat walk_at "g"
    refine x_do0 ⟨_, _, H.e, rfl, m593_is_active⟩ (r477 H) r fun v σ' q => ?_
    obtain ⟨rfl, rfl⟩ := q
    repeat walk_at "g"
    refine ite_no (by rw [decide_eq_true hl]; decide) ?_
    repeat walk_at "g"
    exact ⟨rfl, rfl⟩
  refine ⟨?_, fun u => ?_⟩
  · exact runs (binds := [(S "self", .ref x), (S "minquality", .int 0 751)]) f520 c520 (fun P s X => .of_defaults (T := 513) rfl (X _ _ (d520 P)) rfl (by rfl) (by rfl)) (by rfl) (by rfl) (by exact ⟨rfl, rfl, rfl⟩) fun c r => key c 751 r
  · exact runs (binds := [(S "self", .ref x), (S "minquality", .int 0 u)]) f520 c520 (fun P s X => .of_defaults (T := 513) rfl (X _ _ (d520 P)) rfl (by rfl) (by rfl)) (by rfl) (by rfl) (by exact ⟨rfl, rfl, rfl⟩) fun c r => key c u r
end
theorem kid_multi {P : RepT} {bb : Nat} (B : Kid bb P) : Kid (bb + 3) (MRep P) where
  act := by
    rintro σ x R fp ⟨ml, ol, sc, n, cur, t, as, os, Rk, fk, H, ha, hR, hx, hm, ho, hs, hk, hd⟩
    exact ⟨477, ⟨_, _, H.e, rfl, m593_is_active⟩, (r477 (b := bb + 2) H).mono (Nat.le_refl _) fun v σ' q => ⟨⟨_, q.1, by rw [decide_eq_true_iff]; exact MC.actR ha hR⟩, q.2⟩⟩
  id := by
    rintro σ x R fp i w ⟨ml, ol, sc, n, cur, t, as, os, Rk, fk, H, ha, hR, hx, hm, ho, hs, hk, hd⟩ h
    obtain ⟨hl, hh⟩ := H.head ha hR h
    refine ⟨527, ⟨_, _, H.e, rfl, m593_id⟩, (r527 B H hl hh).mono (by omega) fun v σ' q => ?_⟩
    obtain ⟨q1, q2, q3⟩ := q
    exact ⟨q1, ⟨ml, ol, sc, n, cur, t, as, os, Rk, fk, H.asked B hl q2 q3, ha, hR, hx, hm, ho, hs, hk, dom_step B hd q2 q3⟩, q3.mono fun y => hk cur y (Nat.le_refl _) hl⟩
  weight := by
    rintro σ x R fp i w ⟨ml, ol, sc, n, cur, t, as, os, Rk, fk, H, ha, hR, hx, hm, ho, hs, hk, hd⟩ h
    obtain ⟨hl, hh⟩ := H.head ha hR h
    refine ⟨583, ⟨_, _, H.e, rfl, m593_weight⟩, (r583 B H hl hh).mono (by omega) fun v σ' q => ?_⟩
    obtain ⟨q1, q2, q3⟩ := q
    exact ⟨q1, ⟨ml, ol, sc, n, cur, t, as, os, Rk, fk, H.asked B hl q2 q3, ha, hR, hx, hm, ho, hs, hk, dom_step B hd q2 q3⟩, q3.mono fun y => hk cur y (Nat.le_refl _) hl⟩
  next := by
    rintro σ x R fp i w ⟨ml, ol, sc, n, cur, t, as, os, Rk, fk, H, ha, hR, hx, hm, ho, hs, hk, hd⟩ h
    obtain ⟨hl, hh⟩ := H.head ha hR h
    refine ⟨548, ⟨_, _, H.e, rfl, m593_next⟩, (r548 B H hl hh).mono (by omega) fun v σ' q => ?_⟩
    obtain ⟨rfl, cur', t', σ1, H', k1, k2, k3, hP, hO, hσ⟩ := q
    have o1 : Off fp σ σ1 := hO.mono fun y => hk cur y (Nat.le_refl _) hl
    have d1 := dom_step B hd hP hO
    refine ⟨.inl rfl, ⟨ml, ol, sc, n, cur', t', as, os, _, fk, H', k3, fun p v => ?_, hx, hm, ho, hs, fun k y a => hk k y (Nat.le_trans k1 a), ?_⟩, ?_⟩
    · rw [← multi_adv k2 k1, H.cutR (g := i + 1) hl (fun k q v a b e => ?_) hR, show i + 1 - os cur = i - os cur + 1 by omega]
      have := H.ord cur k _ q w v (Nat.le_refl _) a b hh.1 e
      omega
    · rcases hσ with rfl | rfl
      · exact d1
      · exact dom_put d1
    · rcases hσ with rfl | rfl
      · exact o1
      · exact o1.trans (Off.put hx)
  skip := by
    rintro σ x R fp ⟨ml, ol, sc, n, cur, t, as, os, Rk, fk, H, ha, hR, hx, hm, ho, hs, hk, hd⟩ hA
    have hl := (MC.actR ha hR).mpr hA
    have hB : Bdd R := by
      have : ∀ m : Nat, m ≤ n → ∃ N : Nat, ∀ p v, (∃ k, cur ≤ k ∧ k < m ∧ Rk k (p - os k) = some v) → -(N : Int) ≤ p ∧ p ≤ N := by
        intro m
        induction m with
        | zero => exact fun _ => ⟨0, fun p v ⟨k, _, b, _⟩ => absurd b (Nat.not_lt_zero _)⟩
        | succ m ih =>
          intro l
          obtain ⟨N, hN⟩ := ih (by omega)
          by_cases q : cur ≤ m
          · obtain ⟨N', hN'⟩ := B.bdd (H.kids m q l)
            refine ⟨N + N' + (os m).natAbs, fun p v ⟨k, a, b, e⟩ => ?_⟩
            by_cases z : k = m
            · subst z; have := hN' _ _ e; omega
            · have := hN p v ⟨k, a, by omega, e⟩; omega
          · exact ⟨0, fun p v ⟨k, a, b, _⟩ => absurd a (by omega)⟩
      obtain ⟨N, hN⟩ := this n (Nat.le_refl _)
      exact ⟨N, fun i w e => hN i w ((hR _ _).mp e)⟩
    refine ⟨555, ⟨_, _, H.e, rfl, m593_skip_to⟩, fun g u => (r555 B H ha hR hx hk hd hl hB g u).mono (by omega) fun v σ' q => ?_⟩
    obtain ⟨hb, cur', t', Rk', H', k1, k2, k3, hO, hD⟩ := q
    exact ⟨hb, ⟨ml, ol, sc, n, cur', t', as, os, Rk', fk, H', k2, k3, hx, hm, ho, hs, fun k y a => hk k y (Nat.le_trans k1 a), hD⟩, hO⟩
  bdd := by
    rintro σ x R fp ⟨ml, ol, sc, n, cur, t, as, os, Rk, fk, H, ha, hR, hx, hm, ho, hs, hk, hd⟩
    have : ∀ m : Nat, m ≤ n → ∃ N : Nat, ∀ p v, (∃ k, cur ≤ k ∧ k < m ∧ Rk k (p - os k) = some v) → -(N : Int) ≤ p ∧ p ≤ N := by
      intro m
      induction m with
      | zero => exact fun _ => ⟨0, fun p v ⟨k, _, b, _⟩ => absurd b (Nat.not_lt_zero _)⟩
      | succ m ih =>
        intro l
        obtain ⟨N, hN⟩ := ih (by omega)
        by_cases q : cur ≤ m
        · obtain ⟨N', hN'⟩ := B.bdd (H.kids m q l)
          refine ⟨N + N' + (os m).natAbs, fun p v ⟨k, a, b, e⟩ => ?_⟩
          by_cases z : k = m
          · subst z; have := hN' _ _ e; omega
          · have := hN p v ⟨k, a, by omega, e⟩; omega
        · exact ⟨0, fun p v ⟨k, a, b, _⟩ => absurd a (by omega)⟩
    obtain ⟨N, hN⟩ := this n (Nat.le_refl _)
    exact ⟨N, fun i w e => hN i w ((hR _ _).mp e)⟩
  loc := by
    rintro σ σ' x R fp ⟨ml, ol, sc, n, cur, t, as, os, Rk, fk, H, ha, hR, hx, hm, ho, hs, hk, hd⟩ h
    refine ⟨ml, ol, sc, n, cur, t, as, os, Rk, fk, ⟨?_, ?_, ?_, ?_, fun k a b => B.loc (H.kids k a b) fun y hy => h y (hk k y a b hy), H.dis, H.off, H.hn, H.hc, H.ord⟩, ha, hR, hx, hm, ho, hs, hk, fun y hy => by rw [h y hy]; exact hd y hy⟩
    · rw [h x hx]; exact H.e
    · rw [h ml hm]; exact H.em
    · rw [h ol ho]; exact H.eo
    · rw [h sc hs]; exact H.es
  dom := by
    rintro σ x R fp y ⟨ml, ol, sc, n, cur, t, as, os, Rk, fk, H, ha, hR, hx, hm, ho, hs, hk, hd⟩ hy
    exact hd y hy
  self := by
    rintro σ x R fp ⟨ml, ol, sc, n, cur, t, as, os, Rk, fk, H, ha, hR, hx, hm, ho, hs, hk, hd⟩
    exact hx
theorem sco_multi {P : RepT} {bb : Nat} (B : Kid bb P) : Sco (bb + 3) (MRep P) where
  score := by
    rintro σ x R fp i w ⟨ml, ol, sc, n, cur, t, as, os, Rk, fk, H, ha, hR, hx, hm, ho, hs, hk, hd⟩ h
    obtain ⟨hl, hh⟩ := H.head ha hR h
    refine ⟨590, ⟨_, _, H.e, rfl, m593_score⟩, (r590 B H hl hh).mono (by omega) fun v σ' q => ?_⟩
    obtain ⟨q1, q2, q3⟩ := q
    exact ⟨q1, ⟨ml, ol, sc, n, cur, t, as, os, Rk, fk, H.asked B hl q2 q3, ha, hR, hx, hm, ho, hs, hk, dom_step B hd q2 q3⟩, q3.mono fun y => hk cur y (Nat.le_refl _) hl⟩
theorem rpl_multi {P : RepT} {bb : Nat} (B : Kid bb P) : Rpl (bb + 3) (MRep P) (MRep P) where
  rpl := by
    rintro σ x R fp ⟨ml, ol, sc, n, cur, t, as, os, Rk, fk, H, ha, hR, hx, hm, ho, hs, hk, hd⟩ hA
    have hl := (MC.actR ha hR).mpr hA
    have post : ∀ v σ', (v = .ref x ∧ σ = σ') → Rpost (MRep P) σ R fp v σ' := by
      rintro v σ' ⟨rfl, rfl⟩
      exact ⟨x, fp, rfl, ⟨ml, ol, sc, n, cur, t, as, os, Rk, fk, H, ha, hR, hx, hm, ho, hs, hk, hd⟩, fun a h => .inl h, fun y _ _ => rfl⟩
    exact ⟨520, ⟨_, _, H.e, rfl, m593_replace⟩, (r520 (b := bb + 1) H hl).1.mono (Nat.le_refl _) post, fun u => ((r520 (b := bb + 1) H hl).2 u).mono (Nat.le_refl _) post⟩
noncomputable def idF : Option Value → List (PySem.Str × Value)
  | none => []
  | some v => [(S "_id", v)]
noncomputable def nUnion (a b : Addr) (o : Option Value) : Node := .inst 763 ((S "a", .ref a) :: (S "b", .ref b) :: idF o)
noncomputable def uni : Option Int → Option Int → Option Int
  | some v, some w => some (v + w)
  | some v, none => some v
  | none, r => r
noncomputable def uniR (Ra Rb : Strm) : Strm := fun p => uni (Ra p) (Rb p)
/-- two kids and a body of its own, apart from each other -/
structure Two (P : RepT) (σ : AH) (x a b : Addr) (Ra Rb : Strm) (fa fb : Addr → Prop) : Prop where
  pa : P σ a Ra fa
  pb : P σ b Rb fb
  dis : ∀ y, fa y → fb y → False
  xa : ¬ fa x
  xb : ¬ fb x
section
variable {P : RepT} {σ σ' : AH} {x a b : Addr} {Ra Rb Ra' Rb' : Strm} {fa fb fp : Addr → Prop} {bb : Nat} {o : Option Value} {c : Cx} {m : Lc} {n : Node}
theorem Two.put (B : Kid bb P) (T : Two P σ x a b Ra Rb fa fb) : Two P (put σ x n) x a b Ra Rb fa fb :=
  ⟨B.loc T.pa fun y hy => put_ne fun q => T.xa (q ▸ hy), B.loc T.pb fun y hy => put_ne fun q => T.xb (q ▸ hy), T.dis, T.xa, T.xb⟩
theorem Two.ta (B : Kid bb P) (T : Two P σ x a b Ra Rb fa fb) (h : P σ' a Ra' fa) (ho : Off fa σ σ') : Two P σ' x a b Ra' Rb fa fb :=
  ⟨h, B.loc T.pb fun y hy => ho y fun q => T.dis y q hy, T.dis, T.xa, T.xb⟩
theorem Two.tb (B : Kid bb P) (T : Two P σ x a b Ra Rb fa fb) (h : P σ' b Rb' fb) (ho : Off fb σ σ') : Two P σ' x a b Ra Rb' fa fb :=
  ⟨B.loc T.pa fun y hy => ho y fun q => T.dis y hy q, h, T.dis, T.xa, T.xb⟩
theorem Two.xA (T : Two P σ x a b Ra Rb fa fb) (ho : Off fa σ σ') (e : σ x = some n) : σ' x = some n := (ho x T.xa).trans e
theorem Two.xB (T : Two P σ x a b Ra Rb fa fb) (ho : Off fb σ σ') (e : σ x = some n) : σ' x = some n := (ho x T.xb).trans e
theorem x_uid {expr : Bool} {Q : Value → Lc → AH → Prop} (e : σ x = some (nUnion a b o)) (hh : handedIn (o.getD .none) = true) (h : Q (o.getD .none) m σ) : XV c m σ (getAttr (.ref x) "_id" expr) Q := by
  cases o with
  | none => exact x_clsfield e rfl k763 a763_id (fun P => by kernel_rfl) rfl (by decide) h
  | some v => exact x_field e rfl k763 (attr := some .none) a763_id (fun P => by kernel_rfl) hh h
theorem x_uset {v : Value} {Q : Unit → Lc → AH → Prop} (e : σ x = some (nUnion a b o)) (h : Q () m (put σ x (nUnion a b (some v)))) : XV c m σ (setAttr (.ref x) "_id" v) Q := by
  cases o with
  | none => exact x_setfield e k763 t763_id (Nat.le_of_ble_eq_true rfl) h
  | some w => exact x_setfield e k763 t763_id (Nat.le_of_ble_eq_true rfl) h
theorem uni_act : Act (uniR Ra Rb) ↔ Act Ra ∨ Act Rb := by
  unfold Act uniR
  constructor
  · rintro ⟨i, w, h⟩
    rcases e : Ra i with _ | v
    · rw [e] at h; exact .inr ⟨i, w, h⟩
    · exact .inl ⟨i, v, e⟩
  · rintro (⟨i, w, h⟩ | ⟨i, w, h⟩)
    · refine ⟨i, ?_⟩
      rw [h]
      rcases Rb i with _ | v
      · exact ⟨_, rfl⟩
      · exact ⟨_, rfl⟩
    · refine ⟨i, ?_⟩
      rw [h]
      rcases Ra i with _ | v
      · exact ⟨_, rfl⟩
      · exact ⟨_, rfl⟩
theorem not_act {R : Strm} (h : ¬ Act R) (i : Int) : R i = none := by
  rcases e : R i with _ | w
  · rfl
  · exact (h ⟨i, w, e⟩).elim
theorem uniR_left (h : ¬ Act Ra) : uniR Ra Rb = Rb := funext fun i => by unfold uniR; rw [not_act h i]; rfl
theorem uniR_right (h : ¬ Act Rb) : uniR Ra Rb = Ra := funext fun i => by
  unfold uniR; rw [not_act h i]
  rcases Ra i with _ | v <;> rfl
theorem uni_head {i w ia wa ib wb : Int} (h : Hdd (uniR Ra Rb) i w) (ha : Hdd Ra ia wa) (hb : Hdd Rb ib wb) : i = min ia ib ∧ w = if ia < ib then wa else if ib < ia then wb else wa + wb := by
  have key : Hdd (uniR Ra Rb) (min ia ib) (if ia < ib then wa else if ib < ia then wb else wa + wb) := by
    constructor
    · unfold uniR
      by_cases q : ia < ib
      · rw [if_pos q, Int.min_eq_left (Int.le_of_lt q), ha.1, hb.2 _ q]; rfl
      · rw [if_neg q]
        by_cases q2 : ib < ia
        · rw [if_pos q2, Int.min_eq_right (Int.le_of_lt q2), hb.1, ha.2 _ q2]; rfl
        · have : ia = ib := by omega
          subst this
          rw [if_neg q2, Int.min_eq_left (Int.le_refl _), ha.1, hb.1]; rfl
    · intro j hj
      unfold uniR
      rw [ha.2 j (by omega), hb.2 j (by omega)]; rfl
  exact h.uniq key
/-- is_active -/
theorem r718 (B : Kid bb P) (e : σ x = some (nUnion a b o)) (T : Two P σ x a b Ra Rb fa fb) : Runs (bb + 1) σ 718 [.ref x] [] fun v σ' => (∃ t : Bool, v = .bool t ∧ (t = true ↔ Act Ra ∨ Act Rb)) ∧ σ = σ' := by
  refine runs (binds := [(S "self", .ref x)]) f718 c718 (fun P s X => .of_eq (by rfl)) (by rfl) (by rfl) (by exact ⟨rfl, rfl, rfl⟩) fun c r => ?_
  walk_at "g"
  walk_at "g"
  refine x_or2 ?_
  repeat walk_at "g"
  refine x_fld a763a e rfl rfl ?_
  refine x_act (B.act T.pa) r fun ta hta => ?_
  repeat walk_at "g"
  cases ta with
  | true =>
    refine ite_yes rfl ?_
    exact ⟨⟨true, rfl, fun _ => .inl (hta.mp rfl), fun _ => rfl⟩, rfl⟩
  | false =>
    refine ite_no (by decide) ?_
    repeat walk_at "g"
    refine x_fld a763b e rfl rfl ?_
    refine x_act (B.act T.pb) r fun tb htb => ?_
    exact ⟨⟨tb, rfl, fun h => .inr (htb.mp h), fun h => h.elim (fun z => absurd (hta.mpr z) (by decide)) htb.mpr⟩, rfl⟩
/-- id: the cache is empty or right -/
theorem r732 (B : Kid bb P) (e : σ x = some (nUnion a b o)) (T : Two P σ x a b Ra Rb fa fb) {i w : Int} (h : Hdd (uniR Ra Rb) i w) (ho : ∀ v, o = some v → v = .none ∨ ∃ t, v = .int i t) :
    Runs (bb + 1) σ 732 [.ref x] [] fun v σ' => (∃ t, v = .int i t) ∧ (∃ o', σ' x = some (nUnion a b o') ∧ ∀ v, o' = some v → ∃ t, v = .int i t) ∧ Two P σ' x a b Ra Rb fa fb ∧ Off (fun y => y = x ∨ fa y ∨ fb y) σ σ' := by
  refine runs (binds := [(S "self", .ref x)]) f732 c732 (fun P s X => .of_eq (by rfl)) (by rfl) (by rfl) (by exact ⟨rfl, rfl, rfl⟩) fun c r => ?_
  repeat walk_at "g"
  have hov : o.getD .none = .none ∨ ∃ t, o.getD .none = .int i t := by
    cases o with
    | none => exact .inl rfl
    | some v => exact ho v rfl
  refine x_uid e (by rcases hov with q | ⟨t, q⟩ <;> rw [q] <;> rfl) ?_
  repeat walk_at "g"
  refine x_isNot_none ?_
  rcases hov with hov | ⟨t, hov⟩
  · rw [hov]
    repeat walk_at "g"
    refine ite_no (by decide) ?_
    repeat walk_at "g"
    refine x_fld a763a e rfl rfl ?_
    repeat walk_at "g"
    refine x_fld a763b e rfl rfl ?_
    repeat walk_at "g"
    refine x_act (B.act T.pa) r fun ta hta => ?_
    repeat walk_at "g"
    cases ta with
    | false =>
      refine ite_yes rfl ?_
      have hna : ¬ Act Ra := fun z => absurd (hta.mpr z) (by decide)
      rw [uniR_left hna] at h
      repeat walk_at "g"
      refine x_val0 (B.id T.pb h) r fun t1 σ1 hP hO => ?_
      have T1 := T.tb B hP hO
      have e1 := T.xB hO e
      repeat walk_at "g"
      refine x_uset e1 ?_
      dsimp only
      repeat walk_at "g"
      exact ⟨⟨t1, rfl⟩, ⟨_, put_self _ _ _, fun v q => ⟨t1, by cases q; rfl⟩⟩, T1.put B, (hO.mono fun y hy => .inr (.inr hy)).trans (Off.put (.inl rfl))⟩
    | true =>
      refine ite_no (by decide) ?_
      repeat walk_at "g"
      refine x_act (B.act T.pb) r fun tb htb => ?_
      repeat walk_at "g"
      cases tb with
      | false =>
        refine ite_yes rfl ?_
        have hnb : ¬ Act Rb := fun z => absurd (htb.mpr z) (by decide)
        rw [uniR_right hnb] at h
        repeat walk_at "g"
        refine x_val0 (B.id T.pa h) r fun t1 σ1 hP hO => ?_
        have T1 := T.ta B hP hO
        have e1 := T.xA hO e
        repeat walk_at "g"
        refine x_uset e1 ?_
        dsimp only
        repeat walk_at "g"
        exact ⟨⟨t1, rfl⟩, ⟨_, put_self _ _ _, fun v q => ⟨t1, by cases q; rfl⟩⟩, T1.put B, (hO.mono fun y hy => .inr (.inl hy)).trans (Off.put (.inl rfl))⟩
      | true =>
        refine ite_no (by decide) ?_
        obtain ⟨ia, wa, ha⟩ := (B.bdd T.pa).head (hta.mp rfl)
        obtain ⟨ib, wb, hb⟩ := (B.bdd T.pb).head (htb.mp rfl)
        have hm := (uni_head h ha hb).1
        repeat walk_at "g"
        refine x_builtin b_min.1 b_min.2 (by decide) ?_
        refine x_cwb ?_ (by with_unfolding_all rfl) (by with_unfolding_all rfl)
        repeat walk_at "g"
        refine x_val0 (B.id T.pa ha) r fun t1 σ1 hP hO => ?_
        have T1 := T.ta B hP hO
        have e1 := T.xA hO e
        repeat walk_at "g"
        refine x_val0 (B.id T1.pb hb) r fun t2 σ2 hP2 hO2 => ?_
        have T2 := T1.tb B hP2 hO2
        have e2 := T1.xB hO2 e1
        repeat walk_at "g"
        refine x_min r.2.2 fun t3 => ?_
        rw [← hm]
        repeat walk_at "g"
        refine x_uset e2 ?_
        dsimp only
        repeat walk_at "g"
        exact ⟨⟨t3, rfl⟩, ⟨_, put_self _ _ _, fun v q => ⟨t3, by cases q; rfl⟩⟩, T2.put B, ((hO.mono fun y hy => .inr (.inl hy)).trans (hO2.mono fun y hy => .inr (.inr hy))).trans (Off.put (.inl rfl))⟩
  · rw [hov]
    repeat walk_at "g"
    refine ite_yes rfl ?_
    repeat walk_at "g"
    refine ⟨⟨t, rfl⟩, ⟨o, e, fun v q => ⟨t, by subst q; exact hov⟩⟩, T, Off.refl _ _⟩
end
section
variable {P : RepT} {σ σ' : AH} {x a b : Addr} {Ra Rb Ra' Rb' : Strm} {fa fb fp : Addr → Prop} {bb : Nat} {o : Option Value} {c : Cx} {m : Lc} {n : Node} {env : Env}
/-- weight -/
theorem r746 (B : Kid bb P) (e : σ x = some (nUnion a b o)) (T : Two P σ x a b Ra Rb fa fb) {i w : Int} (h : Hdd (uniR Ra Rb) i w) :
    Runs (bb + 1) σ 746 [.ref x] [] fun v σ' => (∃ t, v = .int w t) ∧ Two P σ' x a b Ra Rb fa fb ∧ Off (fun y => fa y ∨ fb y) σ σ' := by
  refine runs (binds := [(S "self", .ref x)]) f746 c746 (fun P s X => .of_eq (by rfl)) (by rfl) (by rfl) (by exact ⟨rfl, rfl, rfl⟩) fun c r => ?_
  repeat walk_at "g"
  refine x_fld a763a e rfl rfl ?_
  repeat walk_at "g"
  refine x_fld a763b e rfl rfl ?_
  repeat walk_at "g"
  refine x_act (B.act T.pa) r fun ta hta => ?_
  repeat walk_at "g"
  cases ta with
  | false =>
    refine ite_yes rfl ?_
    have hna : ¬ Act Ra := fun z => absurd (hta.mpr z) (by decide)
    rw [uniR_left hna] at h
    obtain ⟨f, hf, hr⟩ := B.weight T.pb h
    repeat walk_at "g"
    refine x_do0 hf hr r fun v σ1 q => ?_
    obtain ⟨q1, hP, hO⟩ := q
    exact ⟨q1, T.tb B hP hO, hO.mono fun y hy => .inr hy⟩
  | true =>
    refine ite_no (by decide) ?_
    repeat walk_at "g"
    refine x_act (B.act T.pb) r fun tb htb => ?_
    repeat walk_at "g"
    cases tb with
    | false =>
      refine ite_yes rfl ?_
      have hnb : ¬ Act Rb := fun z => absurd (htb.mpr z) (by decide)
      rw [uniR_right hnb] at h
      obtain ⟨f, hf, hr⟩ := B.weight T.pa h
      repeat walk_at "g"
      refine x_do0 hf hr r fun v σ1 q => ?_
      obtain ⟨q1, hP, hO⟩ := q
      exact ⟨q1, T.ta B hP hO, hO.mono fun y hy => .inl hy⟩
    | true =>
      refine ite_no (by decide) ?_
      obtain ⟨ia, wa, ha⟩ := (B.bdd T.pa).head (hta.mp rfl)
      obtain ⟨ib, wb, hb⟩ := (B.bdd T.pb).head (htb.mp rfl)
      have hm := (uni_head h ha hb).2
      repeat walk_at "g"
      refine x_val0 (B.id T.pa ha) r fun t1 σ1 hP hO => ?_
      have T1 := T.ta B hP hO
      repeat walk_at "g"
      refine x_val0 (B.id T1.pb hb) r fun t2 σ2 hP2 hO2 => ?_
      have T2 := T1.tb B hP2 hO2
      have O2 : Off (fun y => fa y ∨ fb y) σ σ2 := (hO.mono fun y hy => .inl hy).trans (hO2.mono fun y hy => .inr hy)
      repeat walk_at "g"
      by_cases q1 : ia < ib
      · refine ite_yes (decide_eq_true q1) ?_
        rw [if_pos q1] at hm
        obtain ⟨f, hf, hr⟩ := B.weight T2.pa ha
        repeat walk_at "g"
        refine x_do0 hf hr r fun v σ3 q => ?_
        obtain ⟨z1, hP3, hO3⟩ := q
        rw [hm]
        exact ⟨z1, T2.ta B hP3 hO3, O2.trans (hO3.mono fun y hy => .inl hy)⟩
      · refine ite_no (by rw [decide_eq_false q1]; decide) ?_
        rw [if_neg q1] at hm
        repeat walk_at "g"
        by_cases q2 : ib < ia
        · refine ite_yes (decide_eq_true q2) ?_
          rw [if_pos q2] at hm
          obtain ⟨f, hf, hr⟩ := B.weight T2.pb hb
          repeat walk_at "g"
          refine x_do0 hf hr r fun v σ3 q => ?_
          obtain ⟨z1, hP3, hO3⟩ := q
          rw [hm]
          exact ⟨z1, T2.tb B hP3 hO3, O2.trans (hO3.mono fun y hy => .inr hy)⟩
        · refine ite_no (by rw [decide_eq_false q2]; decide) ?_
          rw [if_neg q2] at hm
          repeat walk_at "g"
          refine x_val0 (B.weight T2.pa ha) r fun t3 σ3 hP3 hO3 => ?_
          have T3 := T2.ta B hP3 hO3
          repeat walk_at "g"
          refine x_val0 (B.weight T3.pb hb) r fun t4 σ4 hP4 hO4 => ?_
          repeat walk_at "g"
          intro t5
          exact ⟨⟨t5, by rw [hm]; rfl⟩, T3.tb B hP4 hO4, (O2.trans (hO3.mono fun y hy => .inl hy)).trans (hO4.mono fun y hy => .inr hy)⟩
/-- score -/
theorem r753 (B : Kid bb P) (Z : Sco bb P) (e : σ x = some (nUnion a b o)) (T : Two P σ x a b Ra Rb fa fb) {i w : Int} (h : Hdd (uniR Ra Rb) i w) :
    Runs (bb + 1) σ 753 [.ref x] [] fun v σ' => (∃ t, v = .int w t) ∧ Two P σ' x a b Ra Rb fa fb ∧ Off (fun y => fa y ∨ fb y) σ σ' := by
  refine runs (binds := [(S "self", .ref x)]) f753 c753 (fun P s X => .of_eq (by rfl)) (by rfl) (by rfl) (by exact ⟨rfl, rfl, rfl⟩) fun c r => ?_
  repeat walk_at "g"
  refine x_fld a763a e rfl rfl ?_
  repeat walk_at "g"
  refine x_fld a763b e rfl rfl ?_
  repeat walk_at "g"
  refine x_act (B.act T.pa) r fun ta hta => ?_
  repeat walk_at "g"
  cases ta with
  | false =>
    refine ite_yes rfl ?_
    have hna : ¬ Act Ra := fun z => absurd (hta.mpr z) (by decide)
    rw [uniR_left hna] at h
    obtain ⟨f, hf, hr⟩ := Z.score T.pb h
    repeat walk_at "g"
    refine x_do0 hf hr r fun v σ1 q => ?_
    obtain ⟨q1, hP, hO⟩ := q
    exact ⟨q1, T.tb B hP hO, hO.mono fun y hy => .inr hy⟩
  | true =>
    refine ite_no (by decide) ?_
    repeat walk_at "g"
    refine x_act (B.act T.pb) r fun tb htb => ?_
    repeat walk_at "g"
    cases tb with
    | false =>
      refine ite_yes rfl ?_
      have hnb : ¬ Act Rb := fun z => absurd (htb.mpr z) (by decide)
      rw [uniR_right hnb] at h
      obtain ⟨f, hf, hr⟩ := Z.score T.pa h
      repeat walk_at "g"
      refine x_do0 hf hr r fun v σ1 q => ?_
      obtain ⟨q1, hP, hO⟩ := q
      exact ⟨q1, T.ta B hP hO, hO.mono fun y hy => .inl hy⟩
    | true =>
      refine ite_no (by decide) ?_
      obtain ⟨ia, wa, ha⟩ := (B.bdd T.pa).head (hta.mp rfl)
      obtain ⟨ib, wb, hb⟩ := (B.bdd T.pb).head (htb.mp rfl)
      have hm := (uni_head h ha hb).2
      repeat walk_at "g"
      refine x_val0 (B.id T.pa ha) r fun t1 σ1 hP hO => ?_
      have T1 := T.ta B hP hO
      repeat walk_at "g"
      refine x_val0 (B.id T1.pb hb) r fun t2 σ2 hP2 hO2 => ?_
      have T2 := T1.tb B hP2 hO2
      have O2 : Off (fun y => fa y ∨ fb y) σ σ2 := (hO.mono fun y hy => .inl hy).trans (hO2.mono fun y hy => .inr hy)
      repeat walk_at "g"
      by_cases q1 : ia < ib
      · refine ite_yes (decide_eq_true q1) ?_
        rw [if_pos q1] at hm
        obtain ⟨f, hf, hr⟩ := Z.score T2.pa ha
        repeat walk_at "g"
        refine x_do0 hf hr r fun v σ3 q => ?_
        obtain ⟨z1, hP3, hO3⟩ := q
        rw [hm]
        exact ⟨z1, T2.ta B hP3 hO3, O2.trans (hO3.mono fun y hy => .inl hy)⟩
      · refine ite_no (by rw [decide_eq_false q1]; decide) ?_
        rw [if_neg q1] at hm
        repeat walk_at "g"
        by_cases q2 : ib < ia
        · refine ite_yes (decide_eq_true q2) ?_
          rw [if_pos q2] at hm
          obtain ⟨f, hf, hr⟩ := Z.score T2.pb hb
          repeat walk_at "g"
          refine x_do0 hf hr r fun v σ3 q => ?_
          obtain ⟨z1, hP3, hO3⟩ := q
          rw [hm]
          exact ⟨z1, T2.tb B hP3 hO3, O2.trans (hO3.mono fun y hy => .inr hy)⟩
        · refine ite_no (by rw [decide_eq_false q2]; decide) ?_
          rw [if_neg q2] at hm
          repeat walk_at "g"
          refine x_val0 (Z.score T2.pa ha) r fun t3 σ3 hP3 hO3 => ?_
          have T3 := T2.ta B hP3 hO3
          repeat walk_at "g"
          refine x_val0 (Z.score T3.pb hb) r fun t4 σ4 hP4 hO4 => ?_
          repeat walk_at "g"
          intro t5
          exact ⟨⟨t5, by rw [hm]; rfl⟩, T3.tb B hP4 hO4, (O2.trans (hO3.mono fun y hy => .inl hy)).trans (hO4.mono fun y hy => .inr hy)⟩
end
section
variable {P : RepT} {σ σ' : AH} {x a b : Addr} {Ra Rb Ra' Rb' : Strm} {fa fb fp : Addr → Prop} {bb : Nat} {o : Option Value} {c : Cx} {m : Lc} {n : Node} {env : Env}
theorem cut_uni (g : Int) : uniR (cut g Ra) (cut g Rb) = cut g (uniR Ra Rb) := funext fun i => by
  unfold uniR cut
  by_cases q : i < g
  · rw [if_pos q, if_pos q, if_pos q]; rfl
  · rw [if_neg q, if_neg q, if_neg q]
theorem cut_dead {R : Strm} (h : ¬ Act R) (g : Int) : cut g R = R := funext fun i => by
  unfold cut; rw [not_act h i]; split <;> rfl
structure UPost (P : RepT) (g : Int) (σ : AH) (x a b : Addr) (Ra Rb : Strm) (fa fb : Addr → Prop) (v : Value) (σ' : AH) : Prop where
  h1 : Back v
  h2 : σ' x = some (nUnion a b (some .none))
  h3 : Two P σ' x a b (cut g Ra) (cut g Rb) fa fb
  h4 : Off (fun y => y = x ∨ fa y ∨ fb y) σ σ'
/-- next -/
theorem r739 (B : Kid bb P) (e : σ x = some (nUnion a b o)) (T : Two P σ x a b Ra Rb fa fb) {i w : Int} (h : Hdd (uniR Ra Rb) i w) :
    Runs (bb + 1) σ 739 [.ref x] [] (UPost P (i + 1) σ x a b Ra Rb fa fb) := by
  refine runs (binds := [(S "self", .ref x)]) f739 c739 (fun P s X => .of_eq (by rfl)) (by rfl) (by rfl) (by exact ⟨rfl, rfl, rfl⟩) fun c r => ?_
  repeat walk_at "g"
  refine x_uset e ?_
  dsimp only
  have T0 : Two P (Mine.put σ x (nUnion a b (some .none))) x a b Ra Rb fa fb := T.put B
  have e0 : Mine.put σ x (nUnion a b (some .none)) x = some (nUnion a b (some .none)) := put_self _ _ _
  have O0 : Off (fun y => y = x ∨ fa y ∨ fb y) σ (Mine.put σ x (nUnion a b (some .none))) := Off.put (.inl rfl)
  generalize Mine.put σ x (nUnion a b (some .none)) = σ0 at T0 e0 O0
  repeat walk_at "g"
  refine x_fld a763a e0 rfl rfl ?_
  repeat walk_at "g"
  refine x_fld a763b e0 rfl rfl ?_
  repeat walk_at "g"
  refine x_act (B.act T0.pa) r fun ta hta => ?_
  repeat walk_at "g"
  refine x_act (B.act T0.pb) r fun tb htb => ?_
  repeat walk_at "g"
  cases ta with
  | false =>
    refine ite_no (by decide) ?_
    repeat walk_at "g"
    have hna : ¬ Act Ra := fun z => absurd (hta.mpr z) (by decide)
    rw [uniR_left hna] at h
    have tbt : tb = true := htb.mpr h.act
    refine ite_yes tbt ?_
    refine ite_no (by decide) ?_
    repeat walk_at "g"
    refine ite_yes rfl ?_
    repeat walk_at "g"
    refine x_next0 (B.next T0.pb h) r fun v σ1 q1 hP hO => ?_
    refine ⟨q1, T0.xB hO e0, ?_, O0.trans (hO.mono fun y hy => .inr (.inr hy))⟩
    rw [cut_dead hna]
    exact T0.tb B hP hO
  | true =>
    refine ite_yes rfl ?_
    refine ite_no (by decide) ?_
    repeat walk_at "g"
    refine ite_no (by decide) ?_
    repeat walk_at "g"
    cases tb with
    | false =>
      refine ite_yes rfl ?_
      have hnb : ¬ Act Rb := fun z => absurd (htb.mpr z) (by decide)
      rw [uniR_right hnb] at h
      repeat walk_at "g"
      refine x_next0 (B.next T0.pa h) r fun v σ1 q1 hP hO => ?_
      refine ⟨q1, T0.xA hO e0, ?_, O0.trans (hO.mono fun y hy => .inr (.inl hy))⟩
      rw [cut_dead hnb]
      exact T0.ta B hP hO
    | true =>
      refine ite_no (by decide) ?_
      obtain ⟨ia, wa, ha⟩ := (B.bdd T0.pa).head (hta.mp rfl)
      obtain ⟨ib, wb, hb⟩ := (B.bdd T0.pb).head (htb.mp rfl)
      have hm := (uni_head h ha hb).1
      repeat walk_at "g"
      refine x_val0 (B.id T0.pa ha) r fun t1 σ1 hP hO => ?_
      have T1 := T0.ta B hP hO
      have e1 := T0.xA hO e0
      repeat walk_at "g"
      refine x_val0 (B.id T1.pb hb) r fun t2 σ2 hP2 hO2 => ?_
      have T2 := T1.tb B hP2 hO2
      have e2 := T1.xB hO2 e1
      have O2 : Off (fun y => y = x ∨ fa y ∨ fb y) σ σ2 := (O0.trans (hO.mono fun y hy => .inr (.inl hy))).trans (hO2.mono fun y hy => .inr (.inr hy))
      repeat walk_at "g"
      have last : ∀ (σ3 : AH) (m3 : Lc) (va : Value), Back va → m3 "ar" = some va → m3 "br" = some .none → m3 "a" = some (.ref a) → m3 "b" = some (.ref b) → m3 "a_id" = some (.int ia t1) → m3 "b_id" = some (.int ib t2) →
          Two P σ3 x a b (cut (i + 1) Ra) Rb fa fb → σ3 x = some (nUnion a b (some .none)) → Off (fun y => y = x ∨ fa y ∨ fb y) σ σ3 →
          XV c m3 σ3 (execs ((Hd.fBody (Hd.subOf Hd.pw 13 5)).drop 10) (envX "UnionMatcher.next" (Hd.fScope (Hd.subOf Hd.pw 13 5)) c.L 739 (.ref 738) [])) fun fl _ σ' => UPost P (i + 1) σ x a b Ra Rb fa fb (retv fl) σ' := by
        intro σ3 m3 va hva mA mB ma mb mi mj T3 e3 O3
        repeat walk_at "g"
        by_cases q : ib ≤ ia
        · refine ite_yes (decide_eq_true q) ?_
          obtain ⟨f, hf, hr⟩ := B.next T3.pb hb
          repeat walk_at "g"
          refine x_do0 hf hr r fun v σ4 q4 => ?_
          obtain ⟨hv, hP4, hO4⟩ := q4
          repeat walk_at "g"
          refine x_or2b hva hv (fun rv' hrv' => ?_) (by repeat walk_at "g"; exact ⟨rfl, rfl, rfl⟩) (by repeat walk_at "g"; exact ⟨rfl, rfl, rfl⟩)
          refine ⟨hrv', T3.xB hO4 e3, ?_, O3.trans (hO4.mono fun y hy => .inr (.inr hy))⟩
          rw [show i = ib by omega]
          rw [show i = ib by omega] at T3
          exact T3.tb B hP4 hO4
        · refine ite_no (by rw [decide_eq_false q]; decide) ?_
          repeat walk_at "g"
          refine x_or2b hva (.inl rfl) (fun rv' hrv' => ?_) (by repeat walk_at "g"; exact ⟨rfl, rfl, rfl⟩) (by repeat walk_at "g"; exact ⟨rfl, rfl, rfl⟩)
          refine ⟨hrv', e3, ?_, O3⟩
          rw [show cut (i + 1) Rb = Rb from cut_id hb (by omega)]
          exact T3
      by_cases q : ia ≤ ib
      · refine ite_yes (decide_eq_true q) ?_
        obtain ⟨f, hf, hr⟩ := B.next T2.pa ha
        repeat walk_at "g"
        refine x_do0 hf hr r fun v σ3 q3 => ?_
        obtain ⟨hv, hP3, hO3⟩ := q3
        walk_at "g"
        walk_at "g"
        refine last σ3 _ v hv rfl rfl rfl rfl rfl rfl ?_ (T2.xA hO3 e2) (O2.trans (hO3.mono fun y hy => .inr (.inl hy)))
        rw [show i = ia by omega]
        exact T2.ta B hP3 hO3
      · refine ite_no (by rw [decide_eq_false q]; decide) ?_
        walk_at "g"
        refine last σ2 _ .none (.inl rfl) rfl rfl rfl rfl rfl rfl ?_ e2 O2
        rw [show cut (i + 1) Ra = Ra from cut_id ha (by omega)]
        exact T2
end
section
variable {P : RepT} {σ σ' : AH} {x a b : Addr} {Ra Rb Ra' Rb' : Strm} {fa fb fp : Addr → Prop} {bb : Nat} {o : Option Value} {c : Cx} {m : Lc} {n : Node} {env : Env}
/-- skip_to -/
theorem r725 (B : Kid bb P) (e : σ x = some (nUnion a b o)) (T : Two P σ x a b Ra Rb fa fb) (g : Int) (u : Tok) :
    Runs (bb + 1) σ 725 [.ref x, .int g u] [] (UPost P g σ x a b Ra Rb fa fb) := by
  refine runs (binds := [(S "self", .ref x), (S "id", .int g u)]) f725 c725 (fun P s X => .of_eq (by rfl)) (by rfl) (by rfl) (by exact ⟨rfl, rfl, rfl⟩) fun c r => ?_
  repeat walk_at "g"
  refine x_uset e ?_
  dsimp only
  have T0 : Two P (Mine.put σ x (nUnion a b (some .none))) x a b Ra Rb fa fb := T.put B
  have e0 : Mine.put σ x (nUnion a b (some .none)) x = some (nUnion a b (some .none)) := put_self _ _ _
  have O0 : Off (fun y => y = x ∨ fa y ∨ fb y) σ (Mine.put σ x (nUnion a b (some .none))) := Off.put (.inl rfl)
  generalize Mine.put σ x (nUnion a b (some .none)) = σ0 at T0 e0 O0
  have last : ∀ (σ3 : AH) (m3 : Lc) (va : Value), Back va → m3 "self" = some (.ref x) → m3 "id" = some (.int g u) → m3 "ra" = some va → (∃ rb, m3 "rb" = some rb ∧ Back rb) →
      Two P σ3 x a b (cut g Ra) Rb fa fb → σ3 x = some (nUnion a b (some .none)) → Off (fun y => y = x ∨ fa y ∨ fb y) σ σ3 →
      XV c m3 σ3 (execs ((Hd.fBody (Hd.subOf Hd.pw 13 3)).drop 3) (envX "UnionMatcher.skip_to" (Hd.fScope (Hd.subOf Hd.pw 13 3)) c.L 725 (.ref 724) [])) fun fl _ σ' => UPost P g σ x a b Ra Rb fa fb (retv fl) σ' := by
    rintro σ3 m3 va hva m1 m2 m4 ⟨rb, m5, hrb⟩ T3 e3 O3
    repeat walk_at "g"
    refine x_fld a763b e3 rfl rfl ?_
    refine x_act (B.act T3.pb) r fun tb htb => ?_
    repeat walk_at "g"
    cases tb with
    | true =>
      refine ite_yes rfl ?_
      obtain ⟨f, hf, hr⟩ := B.skip T3.pb (htb.mp rfl)
      repeat walk_at "g"
      refine x_fld a763b e3 rfl rfl ?_
      refine x_do1 hf ?_ (by with_unfolding_all rfl)
      repeat walk_at "g"
      refine x_runs (hr _ _) r fun v σ4 q => ?_
      obtain ⟨hv, hP4, hO4⟩ := q
      repeat walk_at "g"
      refine x_or2b hva hv (fun rv' hrv' => ?_) (by repeat walk_at "g"; exact ⟨rfl, rfl, rfl⟩) (by repeat walk_at "g"; exact ⟨rfl, rfl, rfl⟩)
      exact ⟨hrv', T3.xB hO4 e3, T3.tb B hP4 hO4, O3.trans (hO4.mono fun y hy => .inr (.inr hy))⟩
    | false =>
      refine ite_no (by decide) ?_
      have hnb : ¬ Act Rb := fun z => absurd (htb.mpr z) (by decide)
      repeat walk_at "g"
      refine x_or2b hva hrb (fun rv' hrv' => ?_) (by repeat walk_at "g"; exact ⟨rfl, rfl, rfl⟩) (by repeat walk_at "g"; exact ⟨rfl, rfl, rfl⟩)
      refine ⟨hrv', e3, ?_, O3⟩
      rw [cut_dead hnb]
      exact T3
  repeat walk_at "g"
  refine x_fld a763a e0 rfl rfl ?_
  refine x_act (B.act T0.pa) r fun ta hta => ?_
  repeat walk_at "g"
  cases ta with
  | true =>
    refine ite_yes rfl ?_
    obtain ⟨f, hf, hr⟩ := B.skip T0.pa (hta.mp rfl)
    repeat walk_at "g"
    refine x_fld a763a e0 rfl rfl ?_
    refine x_do1 hf ?_ (by with_unfolding_all rfl)
    repeat walk_at "g"
    refine x_runs (hr _ _) r fun v σ4 q => ?_
    obtain ⟨hv, hP4, hO4⟩ := q
    walk_at "g"
    walk_at "g"
    exact last σ4 _ v hv rfl rfl rfl ⟨_, rfl, .inr ⟨_, rfl⟩⟩ (T0.ta B hP4 hO4) (T0.xA hO4 e0) (O0.trans (hO4.mono fun y hy => .inr (.inl hy)))
  | false =>
    refine ite_no (by decide) ?_
    have hna : ¬ Act Ra := fun z => absurd (hta.mpr z) (by decide)
    walk_at "g"
    refine last σ0 _ (.bool false) (.inr ⟨_, rfl⟩) rfl rfl rfl ⟨_, rfl, .inr ⟨_, rfl⟩⟩ ?_ e0 O0
    rw [cut_dead hna]
    exact T0
end
/-- the stream of a UnionMatcher -/
inductive URep (P : RepT) (σ : AH) (x : Addr) (R : Strm) (fp : Addr → Prop) : Prop
  | mk (a b : Addr) (o : Option Value) (Ra Rb : Strm) (fa fb : Addr → Prop) (h1 : σ x = some (nUnion a b o)) (h2 : Two P σ x a b Ra Rb fa fb) (h3 : R = uniR Ra Rb) (h4 : (∀ v, o = some v → v = .none ∨ ∃ i w t, v = .int i t ∧ Hdd R i w)) (h5 : fp x) (h6 : (∀ y, fa y → fp y)) (h7 : (∀ y, fb y → fp y)) (h8 : ∀ y, fp y → σ y ≠ none) : URep P σ x R fp
theorem Two.dom {P : RepT} {bb : Nat} (B : Kid bb P) {σ σ' : AH} {x a b : Addr} {Ra Rb : Strm} {fa fb fp : Addr → Prop} {n : Node} (T : Two P σ' x a b Ra Rb fa fb) (e : σ' x = some n) (O : Off (fun y => y = x ∨ fa y ∨ fb y) σ σ') (hd : ∀ y, fp y → σ y ≠ none) :
    ∀ y, fp y → σ' y ≠ none := fun y hy => by
  by_cases q : y = x ∨ fa y ∨ fb y
  · rcases q with rfl | q | q
    · rw [e]; exact fun h => nomatch h
    · exact B.dom T.pa q
    · exact B.dom T.pb q
  · rw [O y q]; exact hd y hy
theorem uni_bdd {Ra Rb : Strm} (ha : Bdd Ra) (hb : Bdd Rb) : Bdd (uniR Ra Rb) := by
  obtain ⟨N, ha⟩ := ha
  obtain ⟨N', hb⟩ := hb
  refine ⟨N + N', fun i w e => ?_⟩
  unfold uniR at e
  rcases q : Ra i with _ | v
  · rw [q] at e; have := hb i w e; omega
  · have := ha i v q; omega
theorem kid_union {P : RepT} {bb : Nat} (B : Kid bb P) : Kid (bb + 1) (URep P) where
  act := by
    rintro σ x R fp ⟨a, b, o, Ra, Rb, fa, fb, e, T, rfl, hc, hx, ha, hb, hd⟩
    refine ⟨718, ⟨_, _, e, by cases o <;> rfl, m763_is_active⟩, (r718 B e T).mono (Nat.le_refl _) fun v σ' q => ?_⟩
    obtain ⟨⟨t, q1, q2⟩, q3⟩ := q
    exact ⟨⟨t, q1, q2.trans uni_act.symm⟩, q3⟩
  id := by
    rintro σ x R fp i w ⟨a, b, o, Ra, Rb, fa, fb, e, T, rfl, hc, hx, ha, hb, hd⟩ h
    refine ⟨732, ⟨_, _, e, by cases o <;> rfl, m763_id⟩, (r732 B e T h (fun v q => ?_)).mono (Nat.le_refl _) fun v σ' q => ?_⟩
    · rcases hc v q with z | ⟨i', w', t, z, z2⟩
      · exact .inl z
      · exact .inr ⟨t, by rw [z, (z2.uniq h).1]⟩
    · obtain ⟨q1, ⟨o', q2, q3⟩, q4, q5⟩ := q
      refine ⟨q1, ⟨a, b, o', Ra, Rb, fa, fb, q2, q4, rfl, fun v z => ?_, hx, ha, hb, q4.dom B q2 q5 hd⟩, q5.mono fun y hy => ?_⟩
      · obtain ⟨t, z⟩ := q3 v z
        exact .inr ⟨i, w, t, z, h⟩
      · rcases hy with rfl | hy | hy
        · exact hx
        · exact ha y hy
        · exact hb y hy
  weight := by
    rintro σ x R fp i w ⟨a, b, o, Ra, Rb, fa, fb, e, T, rfl, hc, hx, ha, hb, hd⟩ h
    refine ⟨746, ⟨_, _, e, by cases o <;> rfl, m763_weight⟩, (r746 B e T h).mono (Nat.le_refl _) fun v σ' q => ?_⟩
    obtain ⟨q1, q2, q3⟩ := q
    have e' : σ' x = some (nUnion a b o) := (q3 x fun z => z.elim T.xa T.xb).trans e
    exact ⟨q1, ⟨a, b, o, Ra, Rb, fa, fb, e', q2, rfl, hc, hx, ha, hb, q2.dom B e' (q3.mono fun y hy => .inr hy) hd⟩, q3.mono fun y hy => hy.elim (ha y) (hb y)⟩
  next := by
    rintro σ x R fp i w ⟨a, b, o, Ra, Rb, fa, fb, e, T, rfl, hc, hx, ha, hb, hd⟩ h
    refine ⟨739, ⟨_, _, e, by cases o <;> rfl, m763_next⟩, (r739 B e T h).mono (Nat.le_refl _) fun v σ' q => ?_⟩
    obtain ⟨q1, q2, q3, q4⟩ := q
    refine ⟨q1, ⟨a, b, _, _, _, fa, fb, q2, q3, (cut_uni _).symm, fun v z => .inl (Option.some.inj z).symm, hx, ha, hb, q3.dom B q2 q4 hd⟩, q4.mono fun y hy => ?_⟩
    rcases hy with rfl | hy | hy
    · exact hx
    · exact ha y hy
    · exact hb y hy
  skip := by
    rintro σ x R fp ⟨a, b, o, Ra, Rb, fa, fb, e, T, rfl, hc, hx, ha, hb, hd⟩ h
    refine ⟨725, ⟨_, _, e, by cases o <;> rfl, m763_skip_to⟩, fun g u => (r725 B e T g u).mono (Nat.le_refl _) fun v σ' q => ?_⟩
    obtain ⟨q1, q2, q3, q4⟩ := q
    refine ⟨q1, ⟨a, b, _, _, _, fa, fb, q2, q3, (cut_uni _).symm, fun v z => .inl (Option.some.inj z).symm, hx, ha, hb, q3.dom B q2 q4 hd⟩, q4.mono fun y hy => ?_⟩
    rcases hy with rfl | hy | hy
    · exact hx
    · exact ha y hy
    · exact hb y hy
  bdd := by
    rintro σ x R fp ⟨a, b, o, Ra, Rb, fa, fb, e, T, rfl, hc, hx, ha, hb, hd⟩
    exact uni_bdd (B.bdd T.pa) (B.bdd T.pb)
  loc := by
    rintro σ σ' x R fp ⟨a, b, o, Ra, Rb, fa, fb, e, T, rfl, hc, hx, ha, hb, hd⟩ h
    exact ⟨a, b, o, Ra, Rb, fa, fb, (h x hx).trans e, ⟨B.loc T.pa fun y hy => h y (ha y hy), B.loc T.pb fun y hy => h y (hb y hy), T.dis, T.xa, T.xb⟩, rfl, hc, hx, ha, hb, fun y hy => by rw [h y hy]; exact hd y hy⟩
  dom := by
    rintro σ x R fp y ⟨a, b, o, Ra, Rb, fa, fb, e, T, rfl, hc, hx, ha, hb, hd⟩ hy
    exact hd y hy
  self := by
    rintro σ x R fp ⟨a, b, o, Ra, Rb, fa, fb, e, T, rfl, hc, hx, ha, hb, hd⟩
    exact hx
theorem sco_union {P : RepT} {bb : Nat} (B : Kid bb P) (Z : Sco bb P) : Sco (bb + 1) (URep P) where
  score := by
    rintro σ x R fp i w ⟨a, b, o, Ra, Rb, fa, fb, e, T, rfl, hc, hx, ha, hb, hd⟩ h
    refine ⟨753, ⟨_, _, e, by cases o <;> rfl, m763_score⟩, (r753 B Z e T h).mono (Nat.le_refl _) fun v σ' q => ?_⟩
    obtain ⟨q1, q2, q3⟩ := q
    have e' : σ' x = some (nUnion a b o) := (q3 x fun z => z.elim T.xa T.xb).trans e
    exact ⟨q1, ⟨a, b, o, Ra, Rb, fa, fb, e', q2, rfl, hc, hx, ha, hb, q2.dom B e' (q3.mono fun y hy => .inr hy) hd⟩, q3.mono fun y hy => hy.elim (ha y) (hb y)⟩
section
variable {P : RepT} {σ σ' : AH} {x a b C : Addr} {bb : Nat}
/-- BiMatcher.__init__ -/
theorem r609 (ka : FF C "a") (kb : FF C "b") (e : σ x = some (.inst C [])) :
    Runs (bb + 1) σ 609 [.ref x, .ref a, .ref b] [] fun v σ' => v = .none ∧ σ' = put σ x (.inst C [(S "a", .ref a), (S "b", .ref b)]) := by
  refine runs (binds := [(S "self", .ref x), (S "a", .ref a), (S "b", .ref b)]) f609 c609 (fun P s X => .of_eq (by rfl)) (by rfl) (by rfl) (by exact ⟨rfl, rfl, rfl⟩) fun c r => ?_
  repeat walk_at "g"
  refine x_set ka e (Nat.le_of_ble_eq_true rfl) rfl ?_
  dsimp only
  repeat walk_at "g"
  refine x_set kb (put_self _ _ _) (Nat.le_of_ble_eq_true rfl) rfl ?_
  dsimp only
  rw [put_put]
  repeat walk_at "g"
  exact ⟨rfl, rfl⟩
end
/-- a UnionMatcher made -/
theorem make_union {P : RepT} {bb : Nat} (B : Kid bb P) {σ : AH} {a b : Addr} {Ra Rb : Strm} {fa fb : Addr → Prop} (pa : P σ a Ra fa) (pb : P σ b Rb fb) (dis : ∀ y, fa y → fb y → False) :
    Runs 2 σ 763 [.ref a, .ref b] [] fun v σ' => ∃ x, v = .ref x ∧ σ x = none ∧ URep P σ' x (uniR Ra Rb) (fun y => y = x ∨ fa y ∨ fb y) ∧ ∀ y, σ y ≠ none → σ' y = σ y := by
  intro c m r
  refine xc_make n_UnionMatcher i_UnionMatcher.1 i_UnionMatcher.2 r fun x A' hx hr => ?_
  refine (r609 (bb := 0) a763a a763b (put_self _ _ _) { c with A := A' } m hr).mono fun v m' σ' q => ?_
  obtain ⟨rfl, rfl, rfl⟩ := q
  rw [put_put]
  have xa : ¬ fa x := fun h => B.dom pa h hx
  have xb : ¬ fb x := fun h => B.dom pb h hx
  have T : Two P (put σ x (nUnion a b none)) x a b Ra Rb fa fb := Two.put B ⟨pa, pb, dis, xa, xb⟩
  refine ⟨rfl, rfl, x, rfl, hx, ⟨a, b, none, Ra, Rb, fa, fb, put_self _ _ _, T, rfl, fun v h => (nomatch h), .inl rfl, fun y h => .inr (.inl h), fun y h => .inr (.inr h), fun y hy => ?_⟩, fun y hy => put_ne fun q => hy (q ▸ hx)⟩
  rcases hy with rfl | hy | hy
  · show put σ y (nUnion a b none) y ≠ none
    rw [put_self]; exact fun h => nomatch h
  · exact B.dom T.pa hy
  · exact B.dom T.pb hy
noncomputable def superO (D x C : Addr) : Obj := { cls := .type "super", dict := none, data := .fields #[.ref D, .ref x, .ref C], slots := #[] }
section
variable {c : Cx} {m : Lc} {σ : AH} {env : Env}
theorem ST.newObj {s : Shared} {h' : Heap} (S : ST c m σ s) (o : Obj) (e : h'.get? s.heap.objs.size = some o) (k : ∀ y o, s.heap.get? y = some o → h'.get? y = some o) (t : Nat) :
    ST c m (put σ s.heap.objs.size (.obj o)) { s with heap := h', toks := t } :=
  (S.keeps (t := t) k).add (x := s.heap.objs.size) (n := .obj o) e fun a w => by
    cases (show a = s.heap.objs.size from w)
    exact ⟨Nat.ne_of_gt S.ltL, S.gone0 (Nat.le_refl _), fun y n e w => Nat.lt_irrefl _ (S.fresh e w)⟩
theorem x_super {D x C : Addr} {fs : List (PySem.Str × Value)} {Q : Value → Lc → AH → Prop} (e : σ x = some (.inst C fs)) (hD : ∀ P, ∃ oD cd, (Hd.KK P).lookup D = some oD ∧ oD.data = .cls cd) (hsub : ∀ P, subIn (Hd.KK P) (.ref C) (.ref D) = some true)
    (h : ∀ so, σ so = none → Q (.ref so) m (put σ so (.obj (superO D x C)))) : XV c m σ (call (.type "super") [.ref D, .ref x] []) Q := .mk fun s S => by
  obtain ⟨oD, cd, hl, hd⟩ := hD c.w.params
  obtain ⟨d, es, n, _, I, h1, h2, A⟩ := S.inst e
  have X : (Hd.KK c.w.params).In s.heap := S.k.keeps S.f.keep
  have S0 := S
  obtain ⟨hh, g, d, t, os⟩ := s
  exact ks_wpAny_call_super (X _ _ hl) hd h1 rfl (fun _ h => nomatch h) (looks_subIn X (hsub _)) fun h' e' k => ⟨m, _, S0.newObj _ e' k t, h _ (S0.gone (Nat.le_refl _))⟩
end
noncomputable def boundO (f x : Addr) : Obj := methodObj (.ref f) (.ref x)
section
variable {c : Cx} {m : Lc} {σ : AH} {env : Env}
theorem x_super_method {so D x C f2 : Addr} {fs : List (PySem.Str × Value)} {name : PySem.Str} {pl : Sem Bool} {Q : Value × List Value → Lc → AH → Prop} (hso : σ so = some (.obj (superO D x C))) (e : σ x = some (.inst C fs))
    (ho : ∀ P, nsIn (Hd.KK P) cStatics "thirdparty.any" = some none) (hm : ∀ P, ks_superIn (Hd.KK P) C D name = some (some (.ref f2))) (ht : ∀ P, typeIn (Hd.KK P) (.ref f2) = some (.type "function")) (hn : (name == ("__class__" : PySem.Str)) = false)
    (h : ∀ q, σ q = none → Q (.ref q, []) m (put σ q (.obj (boundO f2 x)))) : XV c m σ (getMethod (.ref so) name pl) Q := .mk fun s S => by
  obtain ⟨d, es, n, _, I, h1, h2, A⟩ := S.inst e
  have g := S.nodes so _ hso
  have gw := S.out so _ so hso (owns_self _ _)
  have mem : (so, superO D x C) ∈ others c.h₀ c.L s.heap.objs.size s.heap := mem_others.mpr ⟨gw.1, Nat.ne_of_lt (S.fresh hso (owns_self _ _)), gw.2, g⟩
  refine ks_method S.f S.k others_news mem I (ho _) (hm _) (ht _) hn fun q h' F' N' hq => ?_
  have Nq := N' _ (.head _)
  have keep : ∀ y n a, σ y = some n → owns n y a → ∀ o, s.heap.get? a = some o → h'.get? a = some o ∧ a < q := fun y n a e' w o z => by
    have w' := S.out _ _ _ e' w
    have mm : (a, o) ∈ others c.h₀ c.L s.heap.objs.size s.heap := mem_others.mpr ⟨w'.1, Nat.ne_of_lt (S.fresh e' w), w'.2, z⟩
    exact ⟨(N' _ (.tail _ mm)).1, hq _ mm⟩
  have lt : ∀ y n a, σ y = some n → owns n y a → a < q := fun y n a e' w => by
    obtain ⟨o, z⟩ := (S.nodes y n e').has a w
    exact (keep y n a e' w o z).2
  have S1 : ST c m σ { s with heap := h', toks := s.toks + 1 } :=
    ⟨S.k, S.t, F', fun y n e' => (S.nodes y n e').keep fun a o w z => (keep y n a e' w o z).1, S.out, S.sep, S.gens, S.os⟩
  have hqn : σ q = none := by
    rcases z : σ q with _ | n
    · rfl
    · exact (Nat.lt_irrefl _ (lt q n q z (owns_self _ _))).elim
  exact ⟨m, _, S1.add (x := q) (n := .obj (boundO f2 x)) Nq.1 fun a w => by
    cases (show a = q from w)
    exact ⟨Nq.2.1, Nq.2.2, fun y n e' w' => Nat.lt_irrefl _ (lt y n _ e' w')⟩, h q hqn⟩
end
section
variable {c : Cx} {m : Lc} {σ : AH} {env : Env}
/-- the arguments of a call of a method object, no keywords -/
theorem x_cwm {q f : Addr} {self : Value} {args : List Expr} {pos : Pos} {Q : Value → Lc → AH → Prop}
    (h : XV c m σ (spliced (backTo pos (starEach args env))) fun vs m' σ' => σ' q = some (.obj (methodObj (.ref f) self)) ∧ XV c m' σ' (call (.ref q) vs []) Q)
    (hfn : ∀ P, fnIn (Hd.KK P) f = true)
    (hplain : (backTo pos (starEach args env)).any (·.1) = false := by rfl) :
    XV c m σ (callWith pos (.ref q) [] (backTo pos (starEach args env)) (backToKw pos (keywordEach [] env))) Q := .mk fun s S => by
  refine callWith_of (P := MethP (Hd.KK c.w.params) q f self) (by rw [hplain]; rfl) (keeps_M (hfn _)) ?_
  have h' := wpAny_mono (h.run s S) (fun vs s1 (z : ∃ m' σ', ST c m' σ' s1 ∧ σ' q = some (.obj (methodObj (.ref f) self)) ∧ XV c m' σ' (call (.ref q) vs []) Q) =>
    show MethP (Hd.KK c.w.params) q f self s1.heap ∧ wpAny c.M c.A (call (.ref q) vs []) (fun a s' => ∃ m' σ', ST c m' σ' s' ∧ Q a m' σ') (fun _ _ => False) s1 from
      ⟨⟨z.choose_spec.choose_spec.1.nodes _ _ z.choose_spec.choose_spec.2.1, z.choose_spec.choose_spec.1.k.keeps z.choose_spec.choose_spec.1.f.keep⟩, z.choose_spec.choose_spec.2.2.run s1 z.choose_spec.choose_spec.1⟩) (fun _ _ e => e)
  revert hplain h'
  generalize backTo pos (starEach args env) = L
  intro hplain h'
  cases L with
  | nil => exact fun Γ p hΓ => PySem.evalArgs_none (s := s) (h' Γ p hΓ) Γ p hΓ
  | cons a r =>
    obtain ⟨b, t⟩ := a
    have hb : b = false := by
      rw [List.any_cons] at hplain
      exact (Bool.or_eq_false_iff.mp hplain).1
    subst hb
    exact evalArgs_plain h'
theorem x_bound {q f : Addr} {x : Value} {vs : List Value} {kw : List (PySem.Str × Value)} {Q : Value → Lc → AH → Prop} (e : σ q = some (.obj (methodObj (.ref f) x))) (h : XC c m σ (.call (.ref f) ⟨x :: vs, kw⟩) Q) : XV c m σ (call (.ref q) vs kw) Q :=
  x_code <| .mk fun s S => ks_codeAny_call_bound (S.nodes _ _ e) (h.run s S)
end
noncomputable def nTwo (C a b : Addr) : Node := .inst C [(S "a", .ref a), (S "b", .ref b)]
section
variable {P : RepT} {σ σ' : AH} {x a b : Addr} {bb : Nat}

theorem s855 : (∀ P, ∃ oD cd, (Hd.KK P).lookup 855 = some oD ∧ oD.data = .cls cd) ∧ (∀ P, subIn (Hd.KK P) (.ref 855) (.ref 855) = some true) ∧ (∀ P, ks_superIn (Hd.KK P) 855 855 "__init__" = some (some (.ref 609))) :=
  ⟨fun P => ⟨_, _, rfl, rfl⟩, fun P => by kernel_rfl, fun P => by kernel_rfl⟩
/-- IntersectionMatcher.__init__ -/
theorem r781 {QQ : AH → Prop} (e : σ x = some (.inst 855 [])) (na : σ a ≠ none) (nb : σ b ≠ none)
    (hff : ∀ σ1, σ1 x = some (nTwo 855 a b) → (∀ y, y ≠ x → σ y ≠ none → σ1 y = σ y) → Runs bb σ1 795 [.ref x] [] (fun v σ' => Back v ∧ QQ σ')) :
    Runs (bb + 2) σ 781 [.ref x, .ref a, .ref b] [] fun v σ' => v = .none ∧ QQ σ' := by
  refine runs (binds := [(S "self", .ref x), (S "a", .ref a), (S "b", .ref b)]) f781 c781 (fun P s X => .of_eq (by rfl)) (by rfl) (by rfl) (by exact ⟨rfl, rfl, rfl⟩) fun c r => ?_
  repeat walk_at "g"
  refine x_builtin b_super.1 b_super.2 (by decide) ?_
  refine x_cwt ?_
  walk_at "g"
  refine x_global g_IntersectionMatcher.1 ?_
  repeat walk_at "g"
  refine x_super e s855.1 s855.2.1 fun so hso => ?_
  have xso : x ≠ so := fun q => by rw [← q, e] at hso; cases hso
  refine x_super_method (put_self _ _ _) (by rw [put_ne xso]; exact e) (fun P => by kernel_rfl) s855.2.2 (fun P => by kernel_rfl) rfl fun q hq => ?_
  have nx : ∀ y, σ y ≠ none → put (put σ so (.obj (superO 855 x 855))) q (.obj (boundO 609 x)) y = σ y := fun y hy => by
    have h1 : y ≠ so := fun z => hy (z ▸ hso)
    have h2 : y ≠ q := fun z => by rw [← z, put_ne h1] at hq; exact hy hq
    rw [put_ne h2, put_ne h1]
  have e1 : put (put σ so (.obj (superO 855 x 855))) q (.obj (boundO 609 x)) x = some (.inst 855 []) := by rw [nx x (by rw [e]; exact fun h => nomatch h)]; exact e
  refine x_cwm (self := .ref x) (f := 609) ?_ (fun P => by kernel_rfl)
  repeat walk_at "g"
  refine ⟨put_self _ _ _, x_bound (put_self _ _ _) (((r609 (bb := bb) a855a a855b e1) c _ r).mono fun v m' σ' z => ?_)⟩
  obtain ⟨rfl, rfl, rfl⟩ := z
  refine ⟨fun a => (nomatch ·), ?_⟩
  repeat walk_at "g"
  have e2 := put_self (put (put σ so (.obj (superO 855 x 855))) q (.obj (boundO 609 x))) x (nTwo 855 a b)
  refine x_do0 ⟨_, _, e2, rfl, m855__find_first⟩ (hff _ e2 fun y hy hn => by rw [put_ne hy]; exact nx y hn) (r.mono (Nat.le_succ _)) fun v σ' z => ?_
  obtain ⟨hv, hQ⟩ := z
  refine ⟨hv.ne, ?_⟩
  repeat walk_at "g"
  exact ⟨rfl, hQ⟩

theorem s982 : (∀ P, ∃ oD cd, (Hd.KK P).lookup 982 = some oD ∧ oD.data = .cls cd) ∧ (∀ P, subIn (Hd.KK P) (.ref 982) (.ref 982) = some true) ∧ (∀ P, ks_superIn (Hd.KK P) 982 982 "__init__" = some (some (.ref 609))) :=
  ⟨fun P => ⟨_, _, rfl, rfl⟩, fun P => by kernel_rfl, fun P => by kernel_rfl⟩
/-- AndNotMatcher.__init__ -/
theorem r873 {QQ : AH → Prop} (e : σ x = some (.inst 982 [])) (na : σ a ≠ none) (nb : σ b ≠ none)
    (hff : ∀ σ1, σ1 x = some (nTwo 982 a b) → (∀ y, y ≠ x → σ y ≠ none → σ1 y = σ y) → Runs bb σ1 887 [.ref x] [] (fun v σ' => Back v ∧ QQ σ')) :
    Runs (bb + 2) σ 873 [.ref x, .ref a, .ref b] [] fun v σ' => v = .none ∧ QQ σ' := by
  refine runs (binds := [(S "self", .ref x), (S "a", .ref a), (S "b", .ref b)]) f873 c873 (fun P s X => .of_eq (by rfl)) (by rfl) (by rfl) (by exact ⟨rfl, rfl, rfl⟩) fun c r => ?_
  repeat walk_at "g"
  refine x_builtin b_super.1 b_super.2 (by decide) ?_
  refine x_cwt ?_
  walk_at "g"
  refine x_global g_AndNotMatcher.1 ?_
  repeat walk_at "g"
  refine x_super e s982.1 s982.2.1 fun so hso => ?_
  have xso : x ≠ so := fun q => by rw [← q, e] at hso; cases hso
  refine x_super_method (put_self _ _ _) (by rw [put_ne xso]; exact e) (fun P => by kernel_rfl) s982.2.2 (fun P => by kernel_rfl) rfl fun q hq => ?_
  have nx : ∀ y, σ y ≠ none → put (put σ so (.obj (superO 982 x 982))) q (.obj (boundO 609 x)) y = σ y := fun y hy => by
    have h1 : y ≠ so := fun z => hy (z ▸ hso)
    have h2 : y ≠ q := fun z => by rw [← z, put_ne h1] at hq; exact hy hq
    rw [put_ne h2, put_ne h1]
  have e1 : put (put σ so (.obj (superO 982 x 982))) q (.obj (boundO 609 x)) x = some (.inst 982 []) := by rw [nx x (by rw [e]; exact fun h => nomatch h)]; exact e
  refine x_cwm (self := .ref x) (f := 609) ?_ (fun P => by kernel_rfl)
  repeat walk_at "g"
  refine ⟨put_self _ _ _, x_bound (put_self _ _ _) (((r609 (bb := bb) a982a a982b e1) c _ r).mono fun v m' σ' z => ?_)⟩
  obtain ⟨rfl, rfl, rfl⟩ := z
  refine ⟨fun a => (nomatch ·), ?_⟩
  repeat walk_at "g"
  have e2 := put_self (put (put σ so (.obj (superO 982 x 982))) q (.obj (boundO 609 x))) x (nTwo 982 a b)
  refine x_do0 ⟨_, _, e2, rfl, m982__find_first⟩ (hff _ e2 fun y hy hn => by rw [put_ne hy]; exact nx y hn) (r.mono (Nat.le_succ _)) fun v σ' z => ?_
  obtain ⟨hv, hQ⟩ := z
  refine ⟨hv.ne, ?_⟩
  repeat walk_at "g"
  exact ⟨rfl, hQ⟩

end
section
variable {P : RepT} {σ σ' : AH} {x a b : Addr} {Ra Rb : Strm} {fa fb fp : Addr → Prop} {bb : Nat} {c : Cx} {m : Lc} {env : Env}
theorem x_and2 {e1 e2 : Expr} {pos : Pos} {Q : Value → Lc → AH → Prop} (h : XV c m σ (eval e1 env) fun v m1 σ1 => XV c m1 σ1 (truthy v) fun t m2 σ2 => if t then XV c m2 σ2 (eval e2 env) Q else Q v m2 σ2) :
    XV c m σ (eval (.BoolOp .And [e1, e2] pos) env) Q := x_boolop (by
  show XV c m σ (do
    let v ← eval e1 env
    standAt pos
    let t ← holding [v] (truthy v)
    match BoolOp.And, t with
    | .And, false | .Or, true => pure v
    | _, _ => boolOp pos .And [eval e2 env]) Q
  refine x_bind (x_mono h fun v m1 σ1 q => x_bind (x_standAt (x_bind (x_holding (x_mono q fun t m2 σ2 q2 => ?_)))))
  cases t with
  | true => exact q2
  | false => exact x_pure q2)
/-- IntersectionMatcher.is_active -/
theorem r810 (B : Kid bb P) (e : σ x = some (nTwo 855 a b)) (T : Two P σ x a b Ra Rb fa fb) : Runs (bb + 1) σ 810 [.ref x] [] fun v σ' => (∃ t : Bool, v = .bool t ∧ (t = true ↔ Act Ra ∧ Act Rb)) ∧ σ = σ' := by
  refine runs (binds := [(S "self", .ref x)]) f810 c810 (fun P s X => .of_eq (by rfl)) (by rfl) (by rfl) (by exact ⟨rfl, rfl, rfl⟩) fun c r => ?_
  walk_at "g"
  walk_at "g"
  refine x_and2 ?_
  repeat walk_at "g"
  refine x_fld a855a e rfl rfl ?_
  refine x_act (B.act T.pa) r fun ta hta => ?_
  repeat walk_at "g"
  cases ta with
  | false =>
    refine ite_no (by decide) ?_
    exact ⟨⟨false, rfl, fun h => (nomatch h), fun h => absurd (hta.mpr h.1) (by decide)⟩, rfl⟩
  | true =>
    refine ite_yes rfl ?_
    repeat walk_at "g"
    refine x_fld a855b e rfl rfl ?_
    refine x_act (B.act T.pb) r fun tb htb => ?_
    exact ⟨⟨tb, rfl, fun h => ⟨hta.mp rfl, htb.mp h⟩, fun h => htb.mpr h.2⟩, rfl⟩
end
section
variable {P : RepT} {σ σ' : AH} {x a b : Addr} {Ra Rb : Strm} {fa fb fp : Addr → Prop} {bb : Nat} {c : Cx} {m : Lc} {env : Env}

theorem r824 (B : Kid bb P) (e : σ x = some (nTwo 855 a b)) (T : Two P σ x a b Ra Rb fa fb) {i w : Int} (h : Hdd Ra i w) : Runs (bb + 1) σ 824 [.ref x] [] fun v σ' => (∃ t, v = .int i t) ∧ P σ' a Ra fa ∧ Off fa σ σ' := by
  refine runs (binds := [(S "self", .ref x)]) f824 c824 (fun P s X => .of_eq (by rfl)) (by rfl) (by rfl) (by exact ⟨rfl, rfl, rfl⟩) fun c r => ?_
  repeat walk_at "g"
  refine x_fld a855a e rfl rfl ?_
  obtain ⟨f, hf, hr⟩ := B.id T.pa h
  exact x_do0 hf hr r fun v σ' q => q

theorem r944 (B : Kid bb P) (e : σ x = some (nTwo 982 a b)) (T : Two P σ x a b Ra Rb fa fb) {i w : Int} (h : Hdd Ra i w) : Runs (bb + 1) σ 944 [.ref x] [] fun v σ' => (∃ t, v = .int i t) ∧ P σ' a Ra fa ∧ Off fa σ σ' := by
  refine runs (binds := [(S "self", .ref x)]) f944 c944 (fun P s X => .of_eq (by rfl)) (by rfl) (by rfl) (by exact ⟨rfl, rfl, rfl⟩) fun c r => ?_
  repeat walk_at "g"
  refine x_fld a982a e rfl rfl ?_
  obtain ⟨f, hf, hr⟩ := B.id T.pa h
  exact x_do0 hf hr r fun v σ' q => q

theorem r965 (B : Kid bb P) (e : σ x = some (nTwo 982 a b)) (T : Two P σ x a b Ra Rb fa fb) {i w : Int} (h : Hdd Ra i w) : Runs (bb + 1) σ 965 [.ref x] [] fun v σ' => (∃ t, v = .int w t) ∧ P σ' a Ra fa ∧ Off fa σ σ' := by
  refine runs (binds := [(S "self", .ref x)]) f965 c965 (fun P s X => .of_eq (by rfl)) (by rfl) (by rfl) (by exact ⟨rfl, rfl, rfl⟩) fun c r => ?_
  repeat walk_at "g"
  refine x_fld a982a e rfl rfl ?_
  obtain ⟨f, hf, hr⟩ := B.weight T.pa h
  exact x_do0 hf hr r fun v σ' q => q

theorem r972 (B : Kid bb P) (Z : Sco bb P) (e : σ x = some (nTwo 982 a b)) (T : Two P σ x a b Ra Rb fa fb) {i w : Int} (h : Hdd Ra i w) : Runs (bb + 1) σ 972 [.ref x] [] fun v σ' => (∃ t, v = .int w t) ∧ P σ' a Ra fa ∧ Off fa σ σ' := by
  refine runs (binds := [(S "self", .ref x)]) f972 c972 (fun P s X => .of_eq (by rfl)) (by rfl) (by rfl) (by exact ⟨rfl, rfl, rfl⟩) fun c r => ?_
  repeat walk_at "g"
  refine x_fld a982a e rfl rfl ?_
  obtain ⟨f, hf, hr⟩ := Z.score T.pa h
  exact x_do0 hf hr r fun v σ' q => q

theorem r684 (B : Kid bb P) (e : σ x = some (nTwo 855 a b)) (T : Two P σ x a b Ra Rb fa fb) {i wa wb : Int} (ha : Hdd Ra i wa) (hb : Hdd Rb i wb) : Runs (bb + 1) σ 684 [.ref x] [] fun v σ' => (∃ t, v = .int (wa + wb) t) ∧ Two P σ' x a b Ra Rb fa fb ∧ Off (fun y => fa y ∨ fb y) σ σ' := by
  refine runs (binds := [(S "self", .ref x)]) f684 c684 (fun P s X => .of_eq (by rfl)) (by rfl) (by rfl) (by exact ⟨rfl, rfl, rfl⟩) fun c r => ?_
  repeat walk_at "g"
  refine x_fld a855a e rfl rfl ?_
  refine x_val0 (B.weight T.pa ha) r fun t1 σ1 hP hO => ?_
  have T1 := T.ta B hP hO
  have e1 := T.xA hO e
  repeat walk_at "g"
  refine x_fld a855b e1 rfl rfl ?_
  refine x_val0 (B.weight T1.pb hb) r fun t2 σ2 hP2 hO2 => ?_
  repeat walk_at "g"
  intro t3
  exact ⟨⟨t3, rfl⟩, T1.tb B hP2 hO2, (hO.mono fun y hy => .inl hy).trans (hO2.mono fun y hy => .inr hy)⟩

theorem r691 (B : Kid bb P) (Z : Sco bb P) (e : σ x = some (nTwo 855 a b)) (T : Two P σ x a b Ra Rb fa fb) {i wa wb : Int} (ha : Hdd Ra i wa) (hb : Hdd Rb i wb) : Runs (bb + 1) σ 691 [.ref x] [] fun v σ' => (∃ t, v = .int (wa + wb) t) ∧ Two P σ' x a b Ra Rb fa fb ∧ Off (fun y => fa y ∨ fb y) σ σ' := by
  refine runs (binds := [(S "self", .ref x)]) f691 c691 (fun P s X => .of_eq (by rfl)) (by rfl) (by rfl) (by exact ⟨rfl, rfl, rfl⟩) fun c r => ?_
  repeat walk_at "g"
  refine x_fld a855a e rfl rfl ?_
  refine x_val0 (Z.score T.pa ha) r fun t1 σ1 hP hO => ?_
  have T1 := T.ta B hP hO
  have e1 := T.xA hO e
  repeat walk_at "g"
  refine x_fld a855b e1 rfl rfl ?_
  refine x_val0 (Z.score T1.pb hb) r fun t2 σ2 hP2 hO2 => ?_
  repeat walk_at "g"
  intro t3
  exact ⟨⟨t3, rfl⟩, T1.tb B hP2 hO2, (hO.mono fun y hy => .inl hy).trans (hO2.mono fun y hy => .inr hy)⟩
end
noncomputable def int2 : Option Int → Option Int → Option Int
  | some v, some w => some (v + w)
  | _, _ => none
noncomputable def intR (Ra Rb : Strm) : Strm := fun p => int2 (Ra p) (Rb p)
section
variable {P : RepT} {σ σ' : AH} {x a b : Addr} {Ra Rb : Strm} {fa fb fp : Addr → Prop} {bb : Nat} {c : Cx} {m : Lc} {env : Env}
theorem intR_left {i w : Int} (h : Hdd Rb i w) : intR (cut i Ra) Rb = intR Ra Rb := funext fun p => by
  unfold intR cut
  by_cases q : p < i
  · rw [if_pos q, h.2 p q]; rcases Ra p with _ | v <;> rfl
  · rw [if_neg q]
theorem intR_right {i w : Int} (h : Hdd Ra i w) : intR Ra (cut i Rb) = intR Ra Rb := funext fun p => by
  unfold intR cut
  by_cases q : p < i
  · rw [if_pos q, h.2 p q]; rfl
  · rw [if_neg q]
/-- AndNotMatcher.is_active -/
theorem r894 (B : Kid bb P) (e : σ x = some (nTwo 982 a b)) (T : Two P σ x a b Ra Rb fa fb) : Runs (bb + 1) σ 894 [.ref x] [] fun v σ' => (∃ t : Bool, v = .bool t ∧ (t = true ↔ Act Ra)) ∧ σ = σ' := by
  refine runs (binds := [(S "self", .ref x)]) f894 c894 (fun P s X => .of_eq (by rfl)) (by rfl) (by rfl) (by exact ⟨rfl, rfl, rfl⟩) fun c r => ?_
  repeat walk_at "g"
  refine x_fld a982a e rfl rfl ?_
  obtain ⟨f, hf, hr⟩ := B.act T.pa
  exact x_do0 hf hr r fun v σ' q => q
end
section
variable {P : RepT} {σ σ' : AH} {x a b : Addr} {Ra Rb : Strm} {fa fb fp : Addr → Prop} {bb : Nat} {c : Cx} {m : Lc} {env : Env}
/-- the two kids after a look for the next common posting -/
inductive FPost (P : RepT) (σ : AH) (x a b : Addr) (Ra Rb : Strm) (fa fb : Addr → Prop) (σ' : AH) : Prop
  | mk (Ra' : Strm) (Rb' : Strm) (h1 : Two P σ' x a b Ra' Rb' fa fb) (h2 : intR Ra' Rb' = intR Ra Rb) (h3 : Off (fun y => fa y ∨ fb y) σ σ') (h4 : (Act Ra' ∧ Act Rb' → ∃ i wa wb, Hdd Ra' i wa ∧ Hdd Rb' i wb)) : FPost P σ x a b Ra Rb fa fb σ'
inductive I817 (P : RepT) (σ : AH) (x a b : Addr) (Ra Rb : Strm) (fa fb : Addr → Prop) (N N' : Nat) (k : Nat) (m' : Lc) (σ' : AH) : Prop
  | mk (h1 : m' "a" = some (.ref a)) (h2 : m' "b" = some (.ref b)) (h3 : (∃ rv, m' "r" = some rv ∧ Back rv)) (ia ib : Int) (wa wb : Int) (ta tb : Tok) (Ra' Rb' : Strm) (h4 : m' "a_id" = some (.int ia ta)) (h5 : m' "b_id" = some (.int ib tb)) (h6 : Two P σ' x a b Ra' Rb' fa fb) (h7 : Hdd Ra' ia wa) (h8 : Hdd Rb' ib wb) (h9 : intR Ra' Rb' = intR Ra Rb) (h10 : Off (fun y => fa y ∨ fb y) σ σ') (h11 : ia ≤ N) (h12 : ib ≤ N') (h13 : (∀ p w, Ra' p = some w → p ≤ N)) (h14 : (∀ p w, Rb' p = some w → p ≤ N')) (h15 : k = (N - ia).toNat + (N' - ib).toNat) : I817 P σ x a b Ra Rb fa fb N N' k m' σ'
/-- IntersectionMatcher._find_next -/
theorem r817 (B : Kid bb P) (e : σ x = some (nTwo 855 a b)) (T : Two P σ x a b Ra Rb fa fb) {ia wa ib wb : Int} (ha : Hdd Ra ia wa) (hb : Hdd Rb ib wb) (hne : ia ≠ ib) :
    Runs (bb + 1) σ 817 [.ref x] [] fun v σ' => Back v ∧ FPost P σ x a b Ra Rb fa fb σ' := by
  obtain ⟨N, hN⟩ := B.bdd T.pa
  obtain ⟨N', hN'⟩ := B.bdd T.pb
  refine runs (binds := [(S "self", .ref x)]) f817 c817 (fun P s X => .of_eq (by rfl)) (by rfl) (by rfl) (by exact ⟨rfl, rfl, rfl⟩) fun c r => ?_
  repeat walk_at "g"
  refine x_fld a855a e rfl rfl ?_
  repeat walk_at "g"
  refine x_fld a855b e rfl rfl ?_
  repeat walk_at "g"
  refine x_val0 (B.id T.pa ha) r fun t1 σ1 hP hO => ?_
  have T1 := T.ta B hP hO
  repeat walk_at "g"
  refine x_val0 (B.id T1.pb hb) r fun t2 σ2 hP2 hO2 => ?_
  have T2 := T1.tb B hP2 hO2
  have O2 : Off (fun y => fa y ∨ fb y) σ σ2 := (hO.mono fun y hy => .inl hy).trans (hO2.mono fun y hy => .inr hy)
  repeat walk_at "g"
  refine ⟨bne_iff_ne.mpr hne, ?_⟩
  repeat walk_at "g"
  refine x_while (fun k m' σ' => I817 P σ x a b Ra Rb fa fb N N' k m' σ') ((N - ia).toNat + (N' - ib).toNat)
    ⟨rfl, rfl, ⟨_, rfl, .inr ⟨_, rfl⟩⟩, ia, ib, wa, wb, t1, t2, Ra, Rb, rfl, rfl, T2, ha, hb, rfl, O2, (hN _ _ ha.1).2, (hN' _ _ hb.1).2, fun p w h => (hN p w h).2, fun p w h => (hN' p w h).2, rfl⟩ ?_
  clear ha hb hne hO hO2 hP hP2 T1 T2 O2 t1 t2
  rintro k m' σ2 ⟨ma, mb, ⟨rv, mr, hrv⟩, ia, ib, wa, wb, t1, t2, Ra2, Rb2, mi, mj, T2, ha, hb, hI, O2, lN, lN', bN, bN', rfl⟩ Q0 hN0 hBk hRt
  repeat walk_at "g"
  refine x_act (B.act T2.pa) r fun ta hta => ?_
  repeat walk_at "g"
  refine ite_yes (hta.mpr ha.act) ?_
  repeat walk_at "g"
  refine x_act (B.act T2.pb) r fun tb htb => ?_
  repeat walk_at "g"
  refine ite_yes (htb.mpr hb.act) ?_
  repeat walk_at "g"
  by_cases hE : ia = ib
  · refine ite_no (by rw [hE]; simp) ?_
    refine ite_no (by decide) ?_
    repeat walk_at "g"
    refine ⟨hrv, _, _, T2, hI, O2, fun _ => ⟨ia, wa, wb, ha, by rw [hE]; exact hb⟩⟩
  · refine ite_yes (bne_iff_ne.mpr hE) ?_
    repeat walk_at "g"
    refine ite_yes rfl ?_
    repeat walk_at "g"
    by_cases hl : ia < ib
    · refine ite_yes (decide_eq_true hl) ?_
      · obtain ⟨f, hf, hr⟩ := B.skip T2.pa ha.act
        repeat walk_at "g"
        refine x_do1 hf ?_ (by with_unfolding_all rfl)
        repeat walk_at "g"
        refine x_runs (hr _ _) r fun v σ3 q => ?_
        obtain ⟨hv, hP3, hO3⟩ := q
        have T3 := T2.ta B hP3 hO3
        have O3 : Off (fun y => fa y ∨ fb y) σ σ3 := O2.trans (hO3.mono fun y hy => .inl hy)
        repeat walk_at "g"
        refine x_act (B.act T3.pa) r fun tc htc => ?_
        repeat walk_at "g"
        cases tc with
        | false =>
          refine ite_yes rfl ?_
          repeat walk_at "g"
          have hn : ¬ Act (cut ib Ra2) := fun z => absurd (htc.mpr z) (by decide)
          refine hRt _ _ _ ?_
          exact ⟨.inl rfl, _, _, T3, (intR_left hb).trans hI, O3, fun z => absurd z.1 hn⟩
        | true =>
          refine ite_no (by decide) ?_
          obtain ⟨i3, w3, h3⟩ := (B.bdd T3.pa).head (htc.mp rfl)
          have h3' := cut_some.mp h3.1
          have l3 := bN _ _ h3'.2
          repeat walk_at "g"
          refine x_or2b hrv hv (fun rv' hrv' => ?_) (by repeat walk_at "g"; exact ⟨rfl, rfl, rfl⟩) (by repeat walk_at "g"; exact ⟨rfl, rfl, rfl⟩)
          repeat walk_at "g"
          refine x_val0 (B.id T3.pa h3) r fun t4 σ4 hP4 hO4 => ?_
          repeat walk_at "g"
          refine hN0 ((N - i3).toNat + (N' - ib).toNat) _ _ (by omega) ⟨ma, mb, ⟨rv', rfl, hrv'⟩, i3, ib, w3, wb, t4, t2, _, _, rfl, mj, T3.ta B hP4 hO4, h3, hb, (intR_left hb).trans hI, O3.trans (hO4.mono fun y hy => .inl hy), l3, lN', fun p w h => bN _ _ (cut_some.mp h).2, bN', rfl⟩
    · refine ite_no (by rw [decide_eq_false hl]; decide) ?_
      · obtain ⟨f, hf, hr⟩ := B.skip T2.pb hb.act
        repeat walk_at "g"
        refine x_do1 hf ?_ (by with_unfolding_all rfl)
        repeat walk_at "g"
        refine x_runs (hr _ _) r fun v σ3 q => ?_
        obtain ⟨hv, hP3, hO3⟩ := q
        have T3 := T2.tb B hP3 hO3
        have O3 : Off (fun y => fa y ∨ fb y) σ σ3 := O2.trans (hO3.mono fun y hy => .inr hy)
        repeat walk_at "g"
        refine x_act (B.act T3.pb) r fun tc htc => ?_
        repeat walk_at "g"
        cases tc with
        | false =>
          refine ite_yes rfl ?_
          repeat walk_at "g"
          have hn : ¬ Act (cut ia Rb2) := fun z => absurd (htc.mpr z) (by decide)
          refine hRt _ _ _ ?_
          exact ⟨.inl rfl, _, _, T3, (intR_right ha).trans hI, O3, fun z => absurd z.2 hn⟩
        | true =>
          refine ite_no (by decide) ?_
          obtain ⟨i3, w3, h3⟩ := (B.bdd T3.pb).head (htc.mp rfl)
          have h3' := cut_some.mp h3.1
          have l3 := bN' _ _ h3'.2
          repeat walk_at "g"
          refine x_or2b hrv hv (fun rv' hrv' => ?_) (by repeat walk_at "g"; exact ⟨rfl, rfl, rfl⟩) (by repeat walk_at "g"; exact ⟨rfl, rfl, rfl⟩)
          repeat walk_at "g"
          refine x_val0 (B.id T3.pb h3) r fun t4 σ4 hP4 hO4 => ?_
          repeat walk_at "g"
          refine hN0 ((N - ia).toNat + (N' - i3).toNat) _ _ (by omega) ⟨ma, mb, ⟨rv', rfl, hrv'⟩, ia, i3, wa, w3, t1, t4, _, _, mi, rfl, T3.tb B hP4 hO4, ha, h3, (intR_right ha).trans hI, O3.trans (hO4.mono fun y hy => .inr hy), lN, l3, bN, fun p w h => bN' _ _ (cut_some.mp h).2, rfl⟩
end
section
variable {P : RepT} {σ σ' : AH} {x a b : Addr} {Ra Rb : Strm} {fa fb fp : Addr → Prop} {bb : Nat} {c : Cx} {m : Lc} {env : Env}
/-- IntersectionMatcher._find_first -/
theorem r795 (B : Kid bb P) (e : σ x = some (nTwo 855 a b)) (T : Two P σ x a b Ra Rb fa fb) : Runs (bb + 2) σ 795 [.ref x] [] fun v σ' => Back v ∧ FPost P σ x a b Ra Rb fa fb σ' := by
  refine runs (binds := [(S "self", .ref x)]) f795 c795 (fun P s X => .of_eq (by rfl)) (by rfl) (by rfl) (by exact ⟨rfl, rfl, rfl⟩) fun c r => ?_
  have r1 := r.mono (Nat.le_succ _)
  repeat walk_at "g"
  refine x_fld a855a e rfl rfl ?_
  refine x_act (B.act T.pa) r1 fun ta hta => ?_
  repeat walk_at "g"
  cases ta with
  | false =>
    refine ite_no (by decide) ?_
    refine ite_no (by decide) ?_
    repeat walk_at "g"
    exact ⟨.inl rfl, _, _, T, rfl, Off.refl _ _, fun z => absurd (hta.mpr z.1) (by decide)⟩
  | true =>
    refine ite_yes rfl ?_
    repeat walk_at "g"
    refine x_fld a855b e rfl rfl ?_
    refine x_act (B.act T.pb) r1 fun tb htb => ?_
    repeat walk_at "g"
    cases tb with
    | false =>
      refine ite_no (by decide) ?_
      refine ite_no (by decide) ?_
      repeat walk_at "g"
      exact ⟨.inl rfl, _, _, T, rfl, Off.refl _ _, fun z => absurd (htb.mpr z.2) (by decide)⟩
    | true =>
      refine ite_yes rfl ?_
      obtain ⟨ia, wa, ha⟩ := (B.bdd T.pa).head (hta.mp rfl)
      obtain ⟨ib, wb, hb⟩ := (B.bdd T.pb).head (htb.mp rfl)
      repeat walk_at "g"
      refine x_fld a855a e rfl rfl ?_
      refine x_val0 (B.id T.pa ha) r1 fun t1 σ1 hP hO => ?_
      have T1 := T.ta B hP hO
      have e1 := T.xA hO e
      repeat walk_at "g"
      refine x_fld a855b e1 rfl rfl ?_
      refine x_val0 (B.id T1.pb hb) r1 fun t2 σ2 hP2 hO2 => ?_
      have T2 := T1.tb B hP2 hO2
      have e2 := T1.xB hO2 e1
      have O2 : Off (fun y => fa y ∨ fb y) σ σ2 := (hO.mono fun y hy => .inl hy).trans (hO2.mono fun y hy => .inr hy)
      repeat walk_at "g"
      by_cases hE : ia = ib
      · refine ite_no (by rw [hE]; simp) ?_
        refine ite_no (by decide) ?_
        repeat walk_at "g"
        exact ⟨.inl rfl, _, _, T2, rfl, O2, fun _ => ⟨ia, wa, wb, ha, by rw [hE]; exact hb⟩⟩
      · refine ite_yes (bne_iff_ne.mpr hE) ?_
        repeat walk_at "g"
        refine ite_yes rfl ?_
        repeat walk_at "g"
        refine x_do0 ⟨_, _, e2, rfl, m855__find_next⟩ (r817 B e2 T2 ha hb hE) r fun v σ3 q => ?_
        obtain ⟨hv, Ra', Rb', q1, q2, q3, q4⟩ := q
        refine ⟨hv.ne, ?_⟩
        repeat walk_at "g"
        exact ⟨.inl rfl, Ra', Rb', q1, q2, O2.trans q3, q4⟩
end
section
variable {P : RepT} {σ σ' : AH} {x a b : Addr} {Ra Rb : Strm} {fa fb fp : Addr → Prop} {bb : Nat} {c : Cx} {m : Lc} {env : Env}
theorem intR_cutl (g : Int) : intR (cut g Ra) Rb = cut g (intR Ra Rb) := funext fun p => by
  unfold intR cut
  by_cases q : p < g
  · rw [if_pos q, if_pos q]; rfl
  · rw [if_neg q, if_neg q]
theorem intR_cutr (g : Int) : intR Ra (cut g Rb) = cut g (intR Ra Rb) := funext fun p => by
  unfold intR cut
  by_cases q : p < g
  · rw [if_pos q, if_pos q]; rcases Ra p with _ | v <;> rfl
  · rw [if_neg q, if_neg q]
/-- IntersectionMatcher.next -/
theorem r852 (B : Kid bb P) (e : σ x = some (nTwo 855 a b)) (T : Two P σ x a b Ra Rb fa fb) {i wa wb : Int} (ha : Hdd Ra i wa) (hb : Hdd Rb i wb) :
    Runs (bb + 2) σ 852 [.ref x] [] fun v σ' => Back v ∧ FPost P σ x a b (cut (i + 1) Ra) Rb fa fb σ' := by
  refine runs (binds := [(S "self", .ref x)]) f852 c852 (fun P s X => .of_eq (by rfl)) (by rfl) (by rfl) (by exact ⟨rfl, rfl, rfl⟩) fun c r => ?_
  have r1 := r.mono (Nat.le_succ _)
  repeat walk_at "g"
  refine x_act ⟨_, ⟨_, _, e, rfl, m855_is_active⟩, r810 B e T⟩ r fun t ht => ?_
  repeat walk_at "g"
  refine ite_no (by rw [ht.mpr ⟨ha.act, hb.act⟩]; decide) ?_
  repeat walk_at "g"
  refine x_fld a855a e rfl rfl ?_
  refine x_next0 (B.next T.pa ha) r1 fun v σ1 hv hP hO => ?_
  have T1 := T.ta B hP hO
  have e1 := T.xA hO e
  have O1 : Off (fun y => fa y ∨ fb y) σ σ1 := hO.mono fun y hy => .inl hy
  repeat walk_at "g"
  refine x_act ⟨_, ⟨_, _, e1, rfl, m855_is_active⟩, r810 B e1 T1⟩ r fun t ht1 => ?_
  repeat walk_at "g"
  cases t with
  | false =>
    refine ite_no (by decide) ?_
    repeat walk_at "g"
    exact ⟨.inl rfl, _, _, T1, rfl, O1, fun z => absurd (ht1.mpr z) (by decide)⟩
  | true =>
    refine ite_yes rfl ?_
    obtain ⟨ia, wa', ha'⟩ := (B.bdd T1.pa).head (ht1.mp rfl).1
    have hne : ia ≠ i := by have := (cut_some.mp ha'.1).1; omega
    repeat walk_at "g"
    refine x_do0 ⟨_, _, e1, rfl, m855__find_next⟩ (r817 B e1 T1 ha' hb hne) r fun v' σ3 q => ?_
    obtain ⟨hv', Ra', Rb', q1, q2, q3, q4⟩ := q
    repeat walk_at "g"
    refine x_or2b hv hv' (fun rv hrv => ?_) (by repeat walk_at "g"; exact ⟨rfl, rfl, rfl⟩) (by repeat walk_at "g"; exact ⟨rfl, rfl, rfl⟩)
    exact ⟨hrv, Ra', Rb', q1, q2, O1.trans q3, q4⟩
/-- IntersectionMatcher.skip_to -/
theorem r838 (B : Kid bb P) (e : σ x = some (nTwo 855 a b)) (T : Two P σ x a b Ra Rb fa fb) (ha : Act Ra) (hb : Act Rb) (g : Int) (u : Tok) :
    Runs (bb + 2) σ 838 [.ref x, .int g u] [] fun v σ' => Back v ∧ FPost P σ x a b (cut g Ra) (cut g Rb) fa fb σ' := by
  refine runs (binds := [(S "self", .ref x), (S "id", .int g u)]) f838 c838 (fun P s X => .of_eq (by rfl)) (by rfl) (by rfl) (by exact ⟨rfl, rfl, rfl⟩) fun c r => ?_
  have r1 := r.mono (Nat.le_succ _)
  repeat walk_at "g"
  refine x_act ⟨_, ⟨_, _, e, rfl, m855_is_active⟩, r810 B e T⟩ r fun t ht => ?_
  repeat walk_at "g"
  refine ite_no (by rw [ht.mpr ⟨ha, hb⟩]; decide) ?_
  repeat walk_at "g"
  refine x_fld a855a e rfl rfl ?_
  obtain ⟨f, hf, hr⟩ := B.skip T.pa ha
  refine x_do1 hf ?_ (by with_unfolding_all rfl)
  repeat walk_at "g"
  refine x_runs (hr _ _) r1 fun va σ1 q => ?_
  obtain ⟨hva, hP, hO⟩ := q
  have T1 := T.ta B hP hO
  have e1 := T.xA hO e
  repeat walk_at "g"
  refine x_fld a855b e1 rfl rfl ?_
  obtain ⟨f, hf, hr⟩ := B.skip T1.pb hb
  refine x_do1 hf ?_ (by with_unfolding_all rfl)
  repeat walk_at "g"
  refine x_runs (hr _ _) r1 fun vb σ2 q => ?_
  obtain ⟨hvb, hP2, hO2⟩ := q
  have T2 := T1.tb B hP2 hO2
  have e2 := T1.xB hO2 e1
  have O2 : Off (fun y => fa y ∨ fb y) σ σ2 := (hO.mono fun y hy => .inl hy).trans (hO2.mono fun y hy => .inr hy)
  repeat walk_at "g"
  refine x_act ⟨_, ⟨_, _, e2, rfl, m855_is_active⟩, r810 B e2 T2⟩ r fun t ht1 => ?_
  repeat walk_at "g"
  cases t with
  | false =>
    refine ite_no (by decide) ?_
    repeat walk_at "g"
    exact ⟨.inl rfl, _, _, T2, rfl, O2, fun z => absurd (ht1.mpr z) (by decide)⟩
  | true =>
    refine ite_yes rfl ?_
    obtain ⟨ia, wa, ha'⟩ := (B.bdd T2.pa).head (ht1.mp rfl).1
    obtain ⟨ib, wb, hb'⟩ := (B.bdd T2.pb).head (ht1.mp rfl).2
    repeat walk_at "g"
    refine x_fld a855a e2 rfl rfl ?_
    refine x_val0 (B.id T2.pa ha') r1 fun t3 σ3 hP3 hO3 => ?_
    have T3 := T2.ta B hP3 hO3
    have e3 := T2.xA hO3 e2
    repeat walk_at "g"
    refine x_fld a855b e3 rfl rfl ?_
    refine x_val0 (B.id T3.pb hb') r1 fun t4 σ4 hP4 hO4 => ?_
    have T4 := T3.tb B hP4 hO4
    have e4 := T3.xB hO4 e3
    have O4 : Off (fun y => fa y ∨ fb y) σ σ4 := (O2.trans (hO3.mono fun y hy => .inl hy)).trans (hO4.mono fun y hy => .inr hy)
    repeat walk_at "g"
    by_cases hE : ia = ib
    · refine ite_no (by rw [hE]; simp) ?_
      repeat walk_at "g"
      refine x_or3b hva hvb (.inr ⟨_, rfl⟩) (fun rv hrv => ?_) (by repeat walk_at "g"; exact ⟨rfl, rfl, rfl⟩) (by repeat walk_at "g"; exact ⟨rfl, rfl, rfl⟩) (by repeat walk_at "g"; exact ⟨rfl, rfl, rfl⟩)
      exact ⟨hrv, _, _, T4, rfl, O4, fun _ => ⟨ia, wa, wb, ha', by rw [hE]; exact hb'⟩⟩
    · refine ite_yes (bne_iff_ne.mpr hE) ?_
      repeat walk_at "g"
      refine x_do0 ⟨_, _, e4, rfl, m855__find_next⟩ (r817 B e4 T4 ha' hb' hE) r fun v' σ5 q => ?_
      obtain ⟨hv', Ra', Rb', q1, q2, q3, q4⟩ := q
      repeat walk_at "g"
      refine x_or3b hva hvb hv' (fun rv hrv => ?_) (by repeat walk_at "g"; exact ⟨rfl, rfl, rfl⟩) (by repeat walk_at "g"; exact ⟨rfl, rfl, rfl⟩) (by repeat walk_at "g"; exact ⟨rfl, rfl, rfl⟩)
      exact ⟨hrv, Ra', Rb', q1, q2, O4.trans q3, q4⟩
end
theorem intR_hdd {Ra Rb : Strm} {i wa wb : Int} (ha : Hdd Ra i wa) (hb : Hdd Rb i wb) : Hdd (intR Ra Rb) i (wa + wb) :=
  ⟨by unfold intR; rw [ha.1, hb.1]; rfl, fun j hj => by unfold intR; rw [ha.2 j hj]; rfl⟩
theorem intR_act {Ra Rb : Strm} (h : Act (intR Ra Rb)) : Act Ra ∧ Act Rb := by
  obtain ⟨i, w, h⟩ := h
  unfold intR at h
  rcases q : Ra i with _ | v
  · rw [q] at h; cases h
  · rcases q2 : Rb i with _ | v2
    · rw [q, q2] at h; cases h
    · exact ⟨⟨i, v, q⟩, ⟨i, v2, q2⟩⟩
theorem intR_bdd {Ra Rb : Strm} (ha : Bdd Ra) : Bdd (intR Ra Rb) := by
  obtain ⟨N, ha⟩ := ha
  refine ⟨N, fun i w e => ?_⟩
  unfold intR at e
  rcases q : Ra i with _ | v
  · rw [q] at e; cases e
  · exact ha i v q
/-- the stream of an IntersectionMatcher -/
inductive IRep (P : RepT) (σ : AH) (x : Addr) (R : Strm) (fp : Addr → Prop) : Prop
  | mk (a b : Addr) (Ra Rb : Strm) (fa fb : Addr → Prop) (h1 : σ x = some (nTwo 855 a b)) (h2 : Two P σ x a b Ra Rb fa fb) (h3 : R = intR Ra Rb) (h4 : (Act Ra ∧ Act Rb → ∃ i wa wb, Hdd Ra i wa ∧ Hdd Rb i wb)) (h5 : fp x) (h6 : (∀ y, fa y → fp y)) (h7 : (∀ y, fb y → fp y)) (h8 : ∀ y, fp y → σ y ≠ none) : IRep P σ x R fp
section
variable {P : RepT} {σ σ' : AH} {x a b : Addr} {R Ra Rb : Strm} {fa fb fp : Addr → Prop} {bb : Nat}
theorem inter_post (B : Kid bb P) (e : σ x = some (nTwo 855 a b)) (T : Two P σ x a b Ra Rb fa fb) (hx : fp x) (ha : ∀ y, fa y → fp y) (hb : ∀ y, fb y → fp y) (hd : ∀ y, fp y → σ y ≠ none) {Ra' Rb' : Strm}
    (q : FPost P σ x a b Ra' Rb' fa fb σ') (hR : intR Ra' Rb' = R) : IRep P σ' x R fp ∧ Off fp σ σ' := by
  obtain ⟨Ra'', Rb'', q1, q2, q3, q4⟩ := q
  have e' : σ' x = some (nTwo 855 a b) := (q3 x fun z => z.elim T.xa T.xb).trans e
  exact ⟨⟨a, b, Ra'', Rb'', fa, fb, e', q1, (q2.trans hR).symm, q4, hx, ha, hb, q1.dom B e' (q3.mono fun y hy => .inr hy) hd⟩, q3.mono fun y hy => hy.elim (ha y) (hb y)⟩
theorem kid_inter (B : Kid bb P) : Kid (bb + 2) (IRep P) where
  act := by
    rintro σ x R fp ⟨a, b, Ra, Rb, fa, fb, e, T, rfl, hc, hx, ha, hb, hd⟩
    refine ⟨810, ⟨_, _, e, rfl, m855_is_active⟩, (r810 B e T).mono (Nat.le_succ _) fun v σ' q => ?_⟩
    obtain ⟨⟨t, q1, q2⟩, q3⟩ := q
    refine ⟨⟨t, q1, q2.trans ⟨fun z => ?_, intR_act⟩⟩, q3⟩
    obtain ⟨i, wa, wb, h1, h2⟩ := hc z
    exact (intR_hdd h1 h2).act
  id := by
    rintro σ x R fp i w ⟨a, b, Ra, Rb, fa, fb, e, T, rfl, hc, hx, ha, hb, hd⟩ h
    obtain ⟨i', wa, wb, h1, h2⟩ := hc (intR_act h.act)
    obtain ⟨rfl, rfl⟩ := h.uniq (intR_hdd h1 h2)
    refine ⟨824, ⟨_, _, e, rfl, m855_id⟩, (r824 B e T h1).mono (Nat.le_succ _) fun v σ' q => ?_⟩
    obtain ⟨q1, q2, q3⟩ := q
    exact ⟨q1, inter_post B e T hx ha hb hd ⟨Ra, Rb, T.ta B q2 q3, rfl, q3.mono fun y hy => .inl hy, hc⟩ rfl⟩
  weight := by
    rintro σ x R fp i w ⟨a, b, Ra, Rb, fa, fb, e, T, rfl, hc, hx, ha, hb, hd⟩ h
    obtain ⟨i', wa, wb, h1, h2⟩ := hc (intR_act h.act)
    obtain ⟨rfl, rfl⟩ := h.uniq (intR_hdd h1 h2)
    refine ⟨684, ⟨_, _, e, rfl, m855_weight⟩, (r684 B e T h1 h2).mono (Nat.le_succ _) fun v σ' q => ?_⟩
    obtain ⟨q1, q2, q3⟩ := q
    exact ⟨q1, inter_post B e T hx ha hb hd ⟨Ra, Rb, q2, rfl, q3, hc⟩ rfl⟩
  next := by
    rintro σ x R fp i w ⟨a, b, Ra, Rb, fa, fb, e, T, rfl, hc, hx, ha, hb, hd⟩ h
    obtain ⟨i', wa, wb, h1, h2⟩ := hc (intR_act h.act)
    obtain ⟨rfl, rfl⟩ := h.uniq (intR_hdd h1 h2)
    refine ⟨852, ⟨_, _, e, rfl, m855_next⟩, (r852 B e T h1 h2).mono (Nat.le_refl _) fun v σ' q => ?_⟩
    exact ⟨q.1, inter_post B e T hx ha hb hd q.2 (intR_cutl _)⟩
  skip := by
    rintro σ x R fp ⟨a, b, Ra, Rb, fa, fb, e, T, rfl, hc, hx, ha, hb, hd⟩ h
    refine ⟨838, ⟨_, _, e, rfl, m855_skip_to⟩, fun g u => (r838 B e T (intR_act h).1 (intR_act h).2 g u).mono (Nat.le_refl _) fun v σ' q => ?_⟩
    exact ⟨q.1, inter_post B e T hx ha hb hd q.2 (by rw [intR_cutl, intR_cutr, cut_cut, Int.max_self])⟩
  bdd := by
    rintro σ x R fp ⟨a, b, Ra, Rb, fa, fb, e, T, rfl, hc, hx, ha, hb, hd⟩
    exact intR_bdd (B.bdd T.pa)
  loc := by
    rintro σ σ' x R fp ⟨a, b, Ra, Rb, fa, fb, e, T, rfl, hc, hx, ha, hb, hd⟩ h
    exact ⟨a, b, Ra, Rb, fa, fb, (h x hx).trans e, ⟨B.loc T.pa fun y hy => h y (ha y hy), B.loc T.pb fun y hy => h y (hb y hy), T.dis, T.xa, T.xb⟩, rfl, hc, hx, ha, hb, fun y hy => by rw [h y hy]; exact hd y hy⟩
  dom := by
    rintro σ x R fp y ⟨a, b, Ra, Rb, fa, fb, e, T, rfl, hc, hx, ha, hb, hd⟩ hy
    exact hd y hy
  self := by
    rintro σ x R fp ⟨a, b, Ra, Rb, fa, fb, e, T, rfl, hc, hx, ha, hb, hd⟩
    exact hx
theorem sco_inter (B : Kid bb P) (Z : Sco bb P) : Sco (bb + 2) (IRep P) where
  score := by
    rintro σ x R fp i w ⟨a, b, Ra, Rb, fa, fb, e, T, rfl, hc, hx, ha, hb, hd⟩ h
    obtain ⟨i', wa, wb, h1, h2⟩ := hc (intR_act h.act)
    obtain ⟨rfl, rfl⟩ := h.uniq (intR_hdd h1 h2)
    refine ⟨691, ⟨_, _, e, rfl, m855_score⟩, (r691 B Z e T h1 h2).mono (Nat.le_succ _) fun v σ' q => ?_⟩
    obtain ⟨q1, q2, q3⟩ := q
    exact ⟨q1, inter_post B e T hx ha hb hd ⟨Ra, Rb, q2, rfl, q3, hc⟩ rfl⟩
/-- an IntersectionMatcher made -/
theorem make_inter (B : Kid bb P) (pa : P σ a Ra fa) (pb : P σ b Rb fb) (dis : ∀ y, fa y → fb y → False) :
    Runs (bb + 5) σ 855 [.ref a, .ref b] [] fun v σ' => ∃ x, v = .ref x ∧ σ x = none ∧ IRep P σ' x (intR Ra Rb) (fun y => y = x ∨ fa y ∨ fb y) ∧ ∀ y, ¬ (fa y ∨ fb y) → σ y ≠ none → σ' y = σ y := by
  intro c m r
  refine xc_make n_IntersectionMatcher i_IntersectionMatcher.1 i_IntersectionMatcher.2 r fun x A' hx hr => ?_
  have xa : ¬ fa x := fun h => B.dom pa h hx
  have xb : ¬ fb x := fun h => B.dom pb h hx
  have nx : ∀ y, σ y ≠ none → put σ x (.inst 855 []) y = σ y := fun y hy => put_ne fun q => hy (q ▸ hx)
  refine (r781 (bb := bb + 2) (a := a) (b := b) (QQ := fun σ' => IRep P σ' x (intR Ra Rb) (fun y => y = x ∨ fa y ∨ fb y) ∧ ∀ y, ¬ (fa y ∨ fb y) → σ y ≠ none → σ' y = σ y) (put_self _ _ _)
    (by rw [nx a (B.dom pa (B.self pa))]; exact B.dom pa (B.self pa)) (by rw [nx b (B.dom pb (B.self pb))]; exact B.dom pb (B.self pb)) (fun σ1 e1 k1 => ?_) { c with A := A' } m hr).mono fun v m' σ' q => ?_
  · have k2 : ∀ y, σ y ≠ none → σ1 y = σ y := fun y hy => (k1 y (fun q => hy (q ▸ hx)) (by rw [nx y hy]; exact hy)).trans (nx y hy)
    have T : Two P σ1 x a b Ra Rb fa fb := ⟨B.loc pa fun y hy => k2 y (B.dom pa hy), B.loc pb fun y hy => k2 y (B.dom pb hy), dis, xa, xb⟩
    refine (r795 B e1 T).mono (Nat.le_refl _) fun v σ' q => ⟨q.1, (inter_post B (fp := fun y => y = x ∨ fa y ∨ fb y) e1 T (.inl rfl) (fun y h => .inr (.inl h)) (fun y h => .inr (.inr h)) (fun y hy => ?_) q.2 rfl).1, ?_⟩
    · rcases hy with rfl | hy | hy
      · rw [e1]; exact fun h => nomatch h
      · exact B.dom T.pa hy
      · exact B.dom T.pb hy
    · intro y hy hn
      obtain ⟨_, _, _, _, q3, _⟩ := q.2
      rw [q3 y hy, k2 y hn]
  · obtain ⟨rfl, h1, h2⟩ := q
    exact ⟨h1, rfl, x, rfl, hx, h2⟩
end
noncomputable def notR (Ra Rb : Strm) : Strm := fun p => match Rb p with
  | none => Ra p
  | some _ => none
theorem notR_none {Ra Rb : Strm} {p : Int} (h : Rb p = none) : notR Ra Rb p = Ra p := by unfold notR; rw [h]
theorem notR_some {Ra Rb : Strm} {p v : Int} (h : Rb p = some v) : notR Ra Rb p = none := by unfold notR; rw [h]
theorem notR_dead {Ra Rb : Strm} (h : ¬ Act Rb) : notR Ra Rb = Ra := funext fun p => notR_none (not_act h p)
noncomputable def Sub (Ra Rb : Strm) : Prop := ∀ p v, Rb p = some v → ∃ w, Ra p = some w
noncomputable def Good (Ra Rb : Strm) : Prop := Act Ra → Sub Ra Rb ∧ ∀ i w, Hdd Ra i w → Rb i = none
theorem Good.dead {Ra Rb : Strm} (h : ¬ Act Rb) : Good Ra Rb := fun _ => ⟨fun p v e => (h ⟨p, v, e⟩).elim, fun i _ _ => not_act h i⟩
theorem Sub.head {Ra Rb : Strm} {i w j v : Int} (s : Sub Ra Rb) (h : Hdd Ra i w) (e : Rb j = some v) : i ≤ j := by
  obtain ⟨w', q⟩ := s _ _ e
  exact h.le q
theorem Sub.act {Ra Rb : Strm} (s : Sub Ra Rb) (h : Act Rb) : Act Ra := by
  obtain ⟨p, v, e⟩ := h
  obtain ⟨w, q⟩ := s _ _ e
  exact ⟨p, w, q⟩
theorem Sub.cut {Ra Rb : Strm} (s : Sub Ra Rb) (g : Int) : Sub (cut g Ra) (Mine.cut g Rb) := fun p v e => by
  obtain ⟨h1, h2⟩ := cut_some.mp e
  obtain ⟨w, q⟩ := s _ _ h2
  exact ⟨w, cut_some.mpr ⟨h1, q⟩⟩
theorem notR_cut {Ra Rb : Strm} (g : Int) : notR (cut g Ra) (cut g Rb) = cut g (notR Ra Rb) := funext fun p => by
  unfold notR cut
  by_cases q : p < g
  · rw [if_pos q, if_pos q, if_pos q]
  · rw [if_neg q, if_neg q, if_neg q]
theorem notR_cutl {Ra Rb : Strm} (g : Int) : notR (cut g Ra) Rb = cut g (notR Ra Rb) := funext fun p => by
  unfold notR cut
  by_cases q : p < g
  · rw [if_pos q, if_pos q]; cases Rb p <;> rfl
  · rw [if_neg q, if_neg q]
/-- past a posting of both -/
theorem not_step {Ra Rb : Strm} {i w v : Int} (s : Sub Ra Rb) (h : Hdd Ra i w) (e : Rb i = some v) : notR (cut (i + 1) Ra) Rb = notR Ra Rb := funext fun p => by
  rw [notR_cutl]
  unfold cut
  by_cases q : p < i + 1
  · rw [if_pos q]
    by_cases q2 : p = i
    · subst q2; rw [notR_some e]
    · have hp : Ra p = none := h.2 p (by omega)
      unfold notR
      rw [hp]; cases Rb p <;> rfl
  · rw [if_neg q]
theorem not_right {Ra Rb : Strm} {i w : Int} (h : Hdd Ra i w) : notR Ra (cut i Rb) = notR Ra Rb := funext fun p => by
  unfold notR cut
  by_cases q : p < i
  · rw [if_pos q, h.2 p q]; cases Rb p <;> rfl
  · rw [if_neg q]
section
variable {P : RepT} {σ σ' : AH} {x a b : Addr} {Ra Rb : Strm} {fa fb fp : Addr → Prop} {bb : Nat} {c : Cx} {m : Lc} {env : Env}
/-- the two kids after a look for the next posting that is not barred -/
inductive NPost (P : RepT) (σ : AH) (x a b : Addr) (Ra Rb : Strm) (fa fb : Addr → Prop) (σ' : AH) : Prop
  | mk (Ra' : Strm) (Rb' : Strm) (h1 : Two P σ' x a b Ra' Rb' fa fb) (h2 : notR Ra' Rb' = notR Ra Rb) (h3 : Off (fun y => fa y ∨ fb y) σ σ') (h4 : Good Ra' Rb') : NPost P σ x a b Ra Rb fa fb σ'
inductive I901 (P : RepT) (σ : AH) (x a b : Addr) (Ra Rb : Strm) (fa fb : Addr → Prop) (N : Nat) (k : Nat) (m' : Lc) (σ' : AH) : Prop
  | mk (h1 : m' "pos" = some (.ref a)) (h2 : m' "neg" = some (.ref b)) (h3 : (∃ rv, m' "r" = some rv ∧ Back rv)) (ia wa : Int) (ta : Tok) (Ra' Rb' : Strm) (h4 : m' "pos_id" = some (.int ia ta)) (h5 : Two P σ' x a b Ra' Rb' fa fb) (h6 : Hdd Ra' ia wa) (h7 : Sub Ra' Rb') (h8 : notR Ra' Rb' = notR Ra Rb) (h9 : Off (fun y => fa y ∨ fb y) σ σ') (h10 : ia ≤ N) (h11 : (∀ p w, Ra' p = some w → p ≤ N)) (h12 : k = (N - ia).toNat) : I901 P σ x a b Ra Rb fa fb N k m' σ'
/-- AndNotMatcher._find_next -/
theorem r901 (B : Kid bb P) (e : σ x = some (nTwo 982 a b)) (T : Two P σ x a b Ra Rb fa fb) (hs : Sub Ra Rb) :
    Runs (bb + 1) σ 901 [.ref x] [] fun v σ' => Back v ∧ NPost P σ x a b Ra Rb fa fb σ' := by
  obtain ⟨N, hN⟩ := B.bdd T.pa
  refine runs (binds := [(S "self", .ref x)]) f901 c901 (fun P s X => .of_eq (by rfl)) (by rfl) (by rfl) (by exact ⟨rfl, rfl, rfl⟩) fun c r => ?_
  repeat walk_at "g"
  refine x_fld a982a e rfl rfl ?_
  repeat walk_at "g"
  refine x_fld a982b e rfl rfl ?_
  repeat walk_at "g"
  refine x_act (B.act T.pb) r fun tb htb => ?_
  repeat walk_at "g"
  cases tb with
  | false =>
    refine ite_yes rfl ?_
    repeat walk_at "g"
    exact ⟨.inl rfl, _, _, T, rfl, Off.refl _ _, Good.dead fun z => absurd (htb.mpr z) (by decide)⟩
  | true =>
    refine ite_no (by decide) ?_
    obtain ⟨ib, wb, hb⟩ := (B.bdd T.pb).head (htb.mp rfl)
    obtain ⟨ia, wa, ha⟩ := (B.bdd T.pa).head (hs.act hb.act)
    have hle := hs.head ha hb.1
    repeat walk_at "g"
    refine x_val0 (B.id T.pa ha) r fun t1 σ1 hP hO => ?_
    have T1 := T.ta B hP hO
    repeat walk_at "g"
    refine x_val0 (B.id T1.pb hb) r fun t2 σ2 hP2 hO2 => ?_
    have T2 := T1.tb B hP2 hO2
    have O2 : Off (fun y => fa y ∨ fb y) σ σ2 := (hO.mono fun y hy => .inl hy).trans (hO2.mono fun y hy => .inr hy)
    repeat walk_at "g"
    refine ite_no (by rw [decide_eq_false (by omega)]; decide) ?_
    repeat walk_at "g"
    refine x_while (fun k m' σ' => I901 P σ x a b Ra Rb fa fb N k m' σ') ((N - ia).toNat)
      ⟨rfl, rfl, ⟨_, rfl, .inr ⟨_, rfl⟩⟩, ia, wa, t1, Ra, Rb, rfl, T2, ha, hs, rfl, O2, (hN _ _ ha.1).2, fun p w h => (hN p w h).2, rfl⟩ ?_
    clear ha hb hle hO hO2 hP hP2 T1 T2 O2 t1 t2 htb hs
    rintro k m' σ2 ⟨ma, mb, ⟨rv, mr, hrv⟩, ia, wa, t1, Ra2, Rb2, mi, T2, ha, hs, hI, O2, lN, bN, rfl⟩ Q0 hN0 hBk hRt
    repeat walk_at "g"
    refine x_act (B.act T2.pa) r fun ta hta => ?_
    repeat walk_at "g"
    refine ite_yes (hta.mpr ha.act) ?_
    repeat walk_at "g"
    refine x_act (B.act T2.pb) r fun tb htb => ?_
    repeat walk_at "g"
    cases tb with
    | false =>
      refine ite_no (by decide) ?_
      refine ite_no (by decide) ?_
      repeat walk_at "g"
      exact ⟨hrv, _, _, T2, hI, O2, Good.dead fun z => absurd (htb.mpr z) (by decide)⟩
    | true =>
      refine ite_yes rfl ?_
      obtain ⟨ib, wb, hb⟩ := (B.bdd T2.pb).head (htb.mp rfl)
      repeat walk_at "g"
      refine x_val0 (B.id T2.pb hb) r fun t3 σ3 hP3 hO3 => ?_
      have T3 := T2.tb B hP3 hO3
      have O3 : Off (fun y => fa y ∨ fb y) σ σ3 := O2.trans (hO3.mono fun y hy => .inr hy)
      repeat walk_at "g"
      by_cases hE : ia = ib
      · refine ite_yes (beq_iff_eq.mpr hE) ?_
        repeat walk_at "g"
        refine ite_yes rfl ?_
        subst hE
        repeat walk_at "g"
        refine x_next0 (B.next T3.pa ha) r fun v σ4 hv hP4 hO4 => ?_
        have T4 := T3.ta B hP4 hO4
        have O4 : Off (fun y => fa y ∨ fb y) σ σ4 := O3.trans (hO4.mono fun y hy => .inl hy)
        repeat walk_at "g"
        refine x_act (B.act T4.pa) r fun tc htc => ?_
        repeat walk_at "g"
        cases tc with
        | false =>
          refine ite_yes rfl ?_
          repeat walk_at "g"
          refine hBk _ _ ?_
          repeat walk_at "g"
          exact ⟨hrv, _, _, T4, (not_step hs ha hb.1).trans hI, O4, fun z => absurd (htc.mpr z) (by decide)⟩
        | true =>
          refine ite_no (by decide) ?_
          obtain ⟨i3, w3, h3⟩ := (B.bdd T4.pa).head (htc.mp rfl)
          have h3' := cut_some.mp h3.1
          have l3 := bN _ _ h3'.2
          repeat walk_at "g"
          refine x_or2b hrv hv (fun rv' hrv' => ?_) (by repeat walk_at "g"; exact ⟨rfl, rfl, rfl⟩) (by repeat walk_at "g"; exact ⟨rfl, rfl, rfl⟩)
          repeat walk_at "g"
          refine x_val0 (B.id T4.pa h3) r fun t5 σ5 hP5 hO5 => ?_
          have T5 := T4.ta B hP5 hO5
          obtain ⟨f, hf, hr⟩ := B.skip T5.pb hb.act
          repeat walk_at "g"
          refine x_do1 hf ?_ (by with_unfolding_all rfl)
          repeat walk_at "g"
          refine x_runs (hr _ _) r fun v σ6 q => ?_
          obtain ⟨hv6, hP6, hO6⟩ := q
          refine ⟨hv6.ne, ?_⟩
          repeat walk_at "g"
          refine hN0 ((N - i3).toNat) _ _ (by omega) ⟨ma, mb, ⟨rv', rfl, hrv'⟩, i3, w3, t5, _, _, rfl, T5.tb B hP6 hO6, h3, ?_, (not_right h3).trans ((not_step hs ha hb.1).trans hI), (O4.trans (hO5.mono fun y hy => .inl hy)).trans (hO6.mono fun y hy => .inr hy), l3, fun p w h => bN _ _ (cut_some.mp h).2, rfl⟩
          intro p v z
          obtain ⟨z1, z2⟩ := cut_some.mp z
          obtain ⟨w, z3⟩ := hs _ _ z2
          exact ⟨w, cut_some.mpr ⟨by have := h3'.1; omega, z3⟩⟩
      · refine ite_no (by rw [beq_eq_false_iff_ne.mpr hE]; decide) ?_
        refine ite_no (by decide) ?_
        repeat walk_at "g"
        refine ⟨hrv, _, _, T3, hI, O3, fun _ => ⟨hs, fun j w hj => ?_⟩⟩
        obtain ⟨rfl, _⟩ := hj.uniq ha
        have hle := hs.head ha hb.1
        exact hb.2 _ (by omega)
/-- AndNotMatcher._find_first -/
theorem r887 (B : Kid bb P) (e : σ x = some (nTwo 982 a b)) (T : Two P σ x a b Ra Rb fa fb) (hs : Sub Ra Rb) :
    Runs (bb + 2) σ 887 [.ref x] [] fun v σ' => Back v ∧ NPost P σ x a b Ra Rb fa fb σ' := by
  refine runs (binds := [(S "self", .ref x)]) f887 c887 (fun P s X => .of_eq (by rfl)) (by rfl) (by rfl) (by exact ⟨rfl, rfl, rfl⟩) fun c r => ?_
  have r1 := r.mono (Nat.le_succ _)
  repeat walk_at "g"
  refine x_fld a982a e rfl rfl ?_
  refine x_act (B.act T.pa) r1 fun ta hta => ?_
  repeat walk_at "g"
  cases ta with
  | false =>
    refine ite_no (by decide) ?_
    refine ite_no (by decide) ?_
    repeat walk_at "g"
    exact ⟨.inl rfl, _, _, T, rfl, Off.refl _ _, fun z => absurd (hta.mpr z) (by decide)⟩
  | true =>
    refine ite_yes rfl ?_
    repeat walk_at "g"
    refine x_fld a982b e rfl rfl ?_
    refine x_act (B.act T.pb) r1 fun tb htb => ?_
    repeat walk_at "g"
    cases tb with
    | false =>
      refine ite_no (by decide) ?_
      refine ite_no (by decide) ?_
      repeat walk_at "g"
      exact ⟨.inl rfl, _, _, T, rfl, Off.refl _ _, Good.dead fun z => absurd (htb.mpr z) (by decide)⟩
    | true =>
      refine ite_yes rfl ?_
      obtain ⟨ia, wa, ha⟩ := (B.bdd T.pa).head (hta.mp rfl)
      obtain ⟨ib, wb, hb⟩ := (B.bdd T.pb).head (htb.mp rfl)
      have hle := hs.head ha hb.1
      repeat walk_at "g"
      refine x_fld a982a e rfl rfl ?_
      refine x_val0 (B.id T.pa ha) r1 fun t1 σ1 hP hO => ?_
      have T1 := T.ta B hP hO
      have e1 := T.xA hO e
      repeat walk_at "g"
      refine x_fld a982b e1 rfl rfl ?_
      refine x_val0 (B.id T1.pb hb) r1 fun t2 σ2 hP2 hO2 => ?_
      have T2 := T1.tb B hP2 hO2
      have e2 := T1.xB hO2 e1
      have O2 : Off (fun y => fa y ∨ fb y) σ σ2 := (hO.mono fun y hy => .inl hy).trans (hO2.mono fun y hy => .inr hy)
      repeat walk_at "g"
      by_cases hE : ia = ib
      · refine ite_yes (beq_iff_eq.mpr hE) ?_
        repeat walk_at "g"
        refine ite_yes rfl ?_
        repeat walk_at "g"
        refine x_do0 ⟨_, _, e2, rfl, m982__find_next⟩ (r901 B e2 T2 hs) r fun v σ3 q => ?_
        obtain ⟨hv, Ra', Rb', q1, q2, q3, q4⟩ := q
        refine ⟨hv.ne, ?_⟩
        repeat walk_at "g"
        exact ⟨.inl rfl, Ra', Rb', q1, q2, O2.trans q3, q4⟩
      · refine ite_no (by rw [beq_eq_false_iff_ne.mpr hE]; decide) ?_
        refine ite_no (by decide) ?_
        repeat walk_at "g"
        refine ⟨.inl rfl, _, _, T2, rfl, O2, fun _ => ⟨hs, fun j w hj => ?_⟩⟩
        obtain ⟨rfl, _⟩ := hj.uniq ha
        exact hb.2 _ (by omega)
end
section
variable {P : RepT} {σ σ' : AH} {x a b : Addr} {R Ra Rb : Strm} {fa fb fp : Addr → Prop} {bb : Nat} {c : Cx} {m : Lc} {env : Env}
theorem notR_hdd (g : Good Ra Rb) {i w : Int} (ha : Hdd Ra i w) : Hdd (notR Ra Rb) i w := by
  have h := (g ha.act).2 _ _ ha
  refine ⟨by rw [notR_none h]; exact ha.1, fun j hj => ?_⟩
  unfold notR
  rw [ha.2 j hj]; cases Rb j <;> rfl
theorem notR_act (h : Act (notR Ra Rb)) : Act Ra := by
  obtain ⟨i, w, h⟩ := h
  unfold notR at h
  rcases q : Rb i with _ | v
  · rw [q] at h; exact ⟨i, w, h⟩
  · rw [q] at h; cases h
theorem notR_bdd (ha : Bdd Ra) : Bdd (notR Ra Rb) := by
  obtain ⟨N, ha⟩ := ha
  refine ⟨N, fun i w e => ?_⟩
  unfold notR at e
  rcases q : Rb i with _ | v
  · rw [q] at e; exact ha i w e
  · rw [q] at e; cases e
/-- AndNotMatcher.next -/
theorem r951 (B : Kid bb P) (e : σ x = some (nTwo 982 a b)) (T : Two P σ x a b Ra Rb fa fb) {i w : Int} (ha : Hdd Ra i w) (hg : Good Ra Rb) :
    Runs (bb + 2) σ 951 [.ref x] [] fun v σ' => Back v ∧ NPost P σ x a b (cut (i + 1) Ra) Rb fa fb σ' := by
  obtain ⟨hs, hn⟩ := hg ha.act
  have hn := hn _ _ ha
  have hs' : Sub (cut (i + 1) Ra) Rb := fun p v z => by
    obtain ⟨w, q⟩ := hs _ _ z
    refine ⟨w, cut_some.mpr ⟨?_, q⟩⟩
    have := ha.le q
    have : p ≠ i := fun y => by rw [y, hn] at z; cases z
    omega
  refine runs (binds := [(S "self", .ref x)]) f951 c951 (fun P s X => .of_eq (by rfl)) (by rfl) (by rfl) (by exact ⟨rfl, rfl, rfl⟩) fun c r => ?_
  have r1 := r.mono (Nat.le_succ _)
  repeat walk_at "g"
  refine x_fld a982a e rfl rfl ?_
  refine x_act (B.act T.pa) r1 fun t ht => ?_
  repeat walk_at "g"
  refine ite_no (by rw [ht.mpr ha.act]; decide) ?_
  obtain ⟨f, hf, hr⟩ := B.next T.pa ha
  repeat walk_at "g"
  refine x_fld a982a e rfl rfl ?_
  refine x_do0 hf hr r1 fun va σ1 q => ?_
  obtain ⟨hva, hP, hO⟩ := q
  have T1 := T.ta B hP hO
  have e1 := T.xA hO e
  have O1 : Off (fun y => fa y ∨ fb y) σ σ1 := hO.mono fun y hy => .inl hy
  repeat walk_at "g"
  refine x_fld a982a e1 rfl rfl ?_
  refine x_act (B.act T1.pa) r1 fun ta hta => ?_
  repeat walk_at "g"
  cases ta with
  | false =>
    refine ite_no (by decide) ?_
    refine ite_no (by decide) ?_
    repeat walk_at "g"
    refine x_or2b hva (.inr ⟨_, rfl⟩) (fun rv hrv => ?_) (by repeat walk_at "g"; exact ⟨rfl, rfl, rfl⟩) (by repeat walk_at "g"; exact ⟨rfl, rfl, rfl⟩)
    exact ⟨hrv, _, _, T1, rfl, O1, fun z => absurd (hta.mpr z) (by decide)⟩
  | true =>
    refine ite_yes rfl ?_
    repeat walk_at "g"
    refine x_fld a982b e1 rfl rfl ?_
    refine x_act (B.act T1.pb) r1 fun tb htb => ?_
    repeat walk_at "g"
    cases tb with
    | false =>
      refine ite_no (by decide) ?_
      refine ite_no (by decide) ?_
      repeat walk_at "g"
      refine x_or2b hva (.inr ⟨_, rfl⟩) (fun rv hrv => ?_) (by repeat walk_at "g"; exact ⟨rfl, rfl, rfl⟩) (by repeat walk_at "g"; exact ⟨rfl, rfl, rfl⟩)
      exact ⟨hrv, _, _, T1, rfl, O1, Good.dead fun z => absurd (htb.mpr z) (by decide)⟩
    | true =>
      refine ite_yes rfl ?_
      repeat walk_at "g"
      refine ite_yes rfl ?_
      repeat walk_at "g"
      refine x_do0 ⟨_, _, e1, rfl, m982__find_next⟩ (r901 B e1 T1 hs') r fun v' σ3 q => ?_
      obtain ⟨hv', Ra', Rb', q1, q2, q3, q4⟩ := q
      repeat walk_at "g"
      refine x_or2b hva hv' (fun rv hrv => ?_) (by repeat walk_at "g"; exact ⟨rfl, rfl, rfl⟩) (by repeat walk_at "g"; exact ⟨rfl, rfl, rfl⟩)
      exact ⟨hrv, Ra', Rb', q1, q2, O1.trans q3, q4⟩
/-- AndNotMatcher.skip_to -/
theorem r958 (B : Kid bb P) (e : σ x = some (nTwo 982 a b)) (T : Two P σ x a b Ra Rb fa fb) {i w : Int} (ha : Hdd Ra i w) (hg : Good Ra Rb) (g : Int) (u : Tok) :
    Runs (bb + 2) σ 958 [.ref x, .int g u] [] fun v σ' => Back v ∧ NPost P σ x a b (cut g Ra) (cut g Rb) fa fb σ' := by
  obtain ⟨hs, hn⟩ := hg ha.act
  have hs' := hs.cut g
  refine runs (binds := [(S "self", .ref x), (S "id", .int g u)]) f958 c958 (fun P s X => .of_eq (by rfl)) (by rfl) (by rfl) (by exact ⟨rfl, rfl, rfl⟩) fun c r => ?_
  have r1 := r.mono (Nat.le_succ _)
  repeat walk_at "g"
  refine x_fld a982a e rfl rfl ?_
  refine x_act (B.act T.pa) r1 fun t ht => ?_
  repeat walk_at "g"
  refine ite_no (by rw [ht.mpr ha.act]; decide) ?_
  repeat walk_at "g"
  refine x_fld a982a e rfl rfl ?_
  refine x_val0 (B.id T.pa ha) r1 fun t0 σ0 hP0 hO0 => ?_
  have T0 := T.ta B hP0 hO0
  have e0 := T.xA hO0 e
  have O0 : Off (fun y => fa y ∨ fb y) σ σ0 := hO0.mono fun y hy => .inl hy
  repeat walk_at "g"
  by_cases hl : g < i
  · refine ite_yes (decide_eq_true hl) ?_
    repeat walk_at "g"
    have q1 : cut g Ra = Ra := cut_id ha (by omega)
    have q2 : cut g Rb = Rb := Strm.ext fun j v => cut_some.trans ⟨fun h => h.2, fun e => ⟨by have := hs.head ha e; omega, e⟩⟩
    rw [q1, q2]
    exact ⟨.inl rfl, _, _, T0, rfl, O0, hg⟩
  · refine ite_no (by rw [decide_eq_false hl]; decide) ?_
    obtain ⟨f, hf, hr⟩ := B.skip T0.pa ha.act
    repeat walk_at "g"
    refine x_fld a982a e0 rfl rfl ?_
    refine x_do1 hf ?_ (by with_unfolding_all rfl)
    repeat walk_at "g"
    refine x_runs (hr _ _) r1 fun va σ1 q => ?_
    obtain ⟨hva, hP, hO⟩ := q
    have T1 := T0.ta B hP hO
    have e1 := T0.xA hO e0
    have O1 : Off (fun y => fa y ∨ fb y) σ σ1 := O0.trans (hO.mono fun y hy => .inl hy)
    refine ⟨hva.ne, ?_⟩
    repeat walk_at "g"
    refine x_fld a982b e1 rfl rfl ?_
    refine x_act (B.act T1.pb) r1 fun tb htb => ?_
    repeat walk_at "g"
    cases tb with
    | false =>
      refine ite_no (by decide) ?_
      repeat walk_at "g"
      have hd : ¬ Act Rb := fun z => absurd (htb.mpr z) (by decide)
      rw [cut_dead hd]
      exact ⟨.inl rfl, _, _, T1, rfl, O1, Good.dead hd⟩
    | true =>
      refine ite_yes rfl ?_
      obtain ⟨f, hf, hr⟩ := B.skip T1.pb (htb.mp rfl)
      repeat walk_at "g"
      refine x_fld a982b e1 rfl rfl ?_
      refine x_do1 hf ?_ (by with_unfolding_all rfl)
      repeat walk_at "g"
      refine x_runs (hr _ _) r1 fun vb σ2 q => ?_
      obtain ⟨hvb, hP2, hO2⟩ := q
      have T2 := T1.tb B hP2 hO2
      have e2 := T1.xB hO2 e1
      have O2 : Off (fun y => fa y ∨ fb y) σ σ2 := O1.trans (hO2.mono fun y hy => .inr hy)
      refine ⟨hvb.ne, ?_⟩
      repeat walk_at "g"
      refine x_do0 ⟨_, _, e2, rfl, m982__find_next⟩ (r901 B e2 T2 hs') r fun v' σ3 q => ?_
      obtain ⟨hv', Ra', Rb', q1, q2, q3, q4⟩ := q
      refine ⟨hv'.ne, ?_⟩
      repeat walk_at "g"
      exact ⟨.inl rfl, Ra', Rb', q1, q2, O2.trans q3, q4⟩
end
/-- the stream of an AndNotMatcher -/
inductive NRep (P : RepT) (σ : AH) (x : Addr) (R : Strm) (fp : Addr → Prop) : Prop
  | mk (a b : Addr) (Ra Rb : Strm) (fa fb : Addr → Prop) (h1 : σ x = some (nTwo 982 a b)) (h2 : Two P σ x a b Ra Rb fa fb) (h3 : R = notR Ra Rb) (h4 : Good Ra Rb) (h5 : fp x) (h6 : (∀ y, fa y → fp y)) (h7 : (∀ y, fb y → fp y)) (h8 : ∀ y, fp y → σ y ≠ none) : NRep P σ x R fp
section
variable {P : RepT} {σ σ' : AH} {x a b : Addr} {R Ra Rb : Strm} {fa fb fp : Addr → Prop} {bb : Nat}
theorem not_post (B : Kid bb P) (e : σ x = some (nTwo 982 a b)) (T : Two P σ x a b Ra Rb fa fb) (hx : fp x) (ha : ∀ y, fa y → fp y) (hb : ∀ y, fb y → fp y) (hd : ∀ y, fp y → σ y ≠ none) {Ra' Rb' : Strm}
    (q : NPost P σ x a b Ra' Rb' fa fb σ') (hR : notR Ra' Rb' = R) : NRep P σ' x R fp ∧ Off fp σ σ' := by
  obtain ⟨Ra'', Rb'', q1, q2, q3, q4⟩ := q
  have e' : σ' x = some (nTwo 982 a b) := (q3 x fun z => z.elim T.xa T.xb).trans e
  exact ⟨⟨a, b, Ra'', Rb'', fa, fb, e', q1, (q2.trans hR).symm, q4, hx, ha, hb, q1.dom B e' (q3.mono fun y hy => .inr hy) hd⟩, q3.mono fun y hy => hy.elim (ha y) (hb y)⟩
theorem not_head (B : Kid bb P) (T : Two P σ x a b Ra Rb fa fb) (hc : Good Ra Rb) {i w : Int} (h : Hdd (notR Ra Rb) i w) : Hdd Ra i w := by
  obtain ⟨i', w', h'⟩ := (B.bdd T.pa).head (notR_act h.act)
  obtain ⟨rfl, rfl⟩ := h.uniq (notR_hdd hc h')
  exact h'
theorem kid_not (B : Kid bb P) : Kid (bb + 2) (NRep P) where
  act := by
    rintro σ x R fp ⟨a, b, Ra, Rb, fa, fb, e, T, rfl, hc, hx, ha, hb, hd⟩
    refine ⟨894, ⟨_, _, e, rfl, m982_is_active⟩, (r894 B e T).mono (Nat.le_succ _) fun v σ' q => ?_⟩
    obtain ⟨⟨t, q1, q2⟩, q3⟩ := q
    refine ⟨⟨t, q1, q2.trans ⟨fun z => ?_, notR_act⟩⟩, q3⟩
    obtain ⟨i, w, h⟩ := (B.bdd T.pa).head z
    exact (notR_hdd hc h).act
  id := by
    rintro σ x R fp i w ⟨a, b, Ra, Rb, fa, fb, e, T, rfl, hc, hx, ha, hb, hd⟩ h
    have h := not_head B T hc h
    refine ⟨944, ⟨_, _, e, rfl, m982_id⟩, (r944 B e T h).mono (Nat.le_succ _) fun v σ' q => ?_⟩
    obtain ⟨q1, q2, q3⟩ := q
    exact ⟨q1, not_post B e T hx ha hb hd ⟨Ra, Rb, T.ta B q2 q3, rfl, q3.mono fun y hy => .inl hy, hc⟩ rfl⟩
  weight := by
    rintro σ x R fp i w ⟨a, b, Ra, Rb, fa, fb, e, T, rfl, hc, hx, ha, hb, hd⟩ h
    have h := not_head B T hc h
    refine ⟨965, ⟨_, _, e, rfl, m982_weight⟩, (r965 B e T h).mono (Nat.le_succ _) fun v σ' q => ?_⟩
    obtain ⟨q1, q2, q3⟩ := q
    exact ⟨q1, not_post B e T hx ha hb hd ⟨Ra, Rb, T.ta B q2 q3, rfl, q3.mono fun y hy => .inl hy, hc⟩ rfl⟩
  next := by
    rintro σ x R fp i w ⟨a, b, Ra, Rb, fa, fb, e, T, rfl, hc, hx, ha, hb, hd⟩ h
    have h := not_head B T hc h
    refine ⟨951, ⟨_, _, e, rfl, m982_next⟩, (r951 B e T h hc).mono (Nat.le_refl _) fun v σ' q => ?_⟩
    exact ⟨q.1, not_post B e T hx ha hb hd q.2 (notR_cutl _)⟩
  skip := by
    rintro σ x R fp ⟨a, b, Ra, Rb, fa, fb, e, T, rfl, hc, hx, ha, hb, hd⟩ h
    obtain ⟨i, w, h⟩ := (B.bdd T.pa).head (notR_act h)
    refine ⟨958, ⟨_, _, e, rfl, m982_skip_to⟩, fun g u => (r958 B e T h hc g u).mono (Nat.le_refl _) fun v σ' q => ?_⟩
    exact ⟨q.1, not_post B e T hx ha hb hd q.2 (notR_cut _)⟩
  bdd := by
    rintro σ x R fp ⟨a, b, Ra, Rb, fa, fb, e, T, rfl, hc, hx, ha, hb, hd⟩
    exact notR_bdd (B.bdd T.pa)
  loc := by
    rintro σ σ' x R fp ⟨a, b, Ra, Rb, fa, fb, e, T, rfl, hc, hx, ha, hb, hd⟩ h
    exact ⟨a, b, Ra, Rb, fa, fb, (h x hx).trans e, ⟨B.loc T.pa fun y hy => h y (ha y hy), B.loc T.pb fun y hy => h y (hb y hy), T.dis, T.xa, T.xb⟩, rfl, hc, hx, ha, hb, fun y hy => by rw [h y hy]; exact hd y hy⟩
  dom := by
    rintro σ x R fp y ⟨a, b, Ra, Rb, fa, fb, e, T, rfl, hc, hx, ha, hb, hd⟩ hy
    exact hd y hy
  self := by
    rintro σ x R fp ⟨a, b, Ra, Rb, fa, fb, e, T, rfl, hc, hx, ha, hb, hd⟩
    exact hx
theorem sco_not (B : Kid bb P) (Z : Sco bb P) : Sco (bb + 2) (NRep P) where
  score := by
    rintro σ x R fp i w ⟨a, b, Ra, Rb, fa, fb, e, T, rfl, hc, hx, ha, hb, hd⟩ h
    have h := not_head B T hc h
    refine ⟨972, ⟨_, _, e, rfl, m982_score⟩, (r972 B Z e T h).mono (Nat.le_succ _) fun v σ' q => ?_⟩
    obtain ⟨q1, q2, q3⟩ := q
    exact ⟨q1, not_post B e T hx ha hb hd ⟨Ra, Rb, T.ta B q2 q3, rfl, q3.mono fun y hy => .inl hy, hc⟩ rfl⟩
/-- an AndNotMatcher made -/
theorem make_not (B : Kid bb P) (pa : P σ a Ra fa) (pb : P σ b Rb fb) (dis : ∀ y, fa y → fb y → False) (hs : Sub Ra Rb) :
    Runs (bb + 5) σ 982 [.ref a, .ref b] [] fun v σ' => ∃ x, v = .ref x ∧ σ x = none ∧ NRep P σ' x (notR Ra Rb) (fun y => y = x ∨ fa y ∨ fb y) ∧ ∀ y, ¬ (fa y ∨ fb y) → σ y ≠ none → σ' y = σ y := by
  intro c m r
  refine xc_make n_AndNotMatcher i_AndNotMatcher.1 i_AndNotMatcher.2 r fun x A' hx hr => ?_
  have xa : ¬ fa x := fun h => B.dom pa h hx
  have xb : ¬ fb x := fun h => B.dom pb h hx
  have nx : ∀ y, σ y ≠ none → put σ x (.inst 982 []) y = σ y := fun y hy => put_ne fun q => hy (q ▸ hx)
  refine (r873 (bb := bb + 2) (a := a) (b := b) (QQ := fun σ' => NRep P σ' x (notR Ra Rb) (fun y => y = x ∨ fa y ∨ fb y) ∧ ∀ y, ¬ (fa y ∨ fb y) → σ y ≠ none → σ' y = σ y) (put_self _ _ _)
    (by rw [nx a (B.dom pa (B.self pa))]; exact B.dom pa (B.self pa)) (by rw [nx b (B.dom pb (B.self pb))]; exact B.dom pb (B.self pb)) (fun σ1 e1 k1 => ?_) { c with A := A' } m hr).mono fun v m' σ' q => ?_
  · have k2 : ∀ y, σ y ≠ none → σ1 y = σ y := fun y hy => (k1 y (fun q => hy (q ▸ hx)) (by rw [nx y hy]; exact hy)).trans (nx y hy)
    have T : Two P σ1 x a b Ra Rb fa fb := ⟨B.loc pa fun y hy => k2 y (B.dom pa hy), B.loc pb fun y hy => k2 y (B.dom pb hy), dis, xa, xb⟩
    refine (r887 B e1 T hs).mono (Nat.le_refl _) fun v σ' q => ⟨q.1, (not_post B (fp := fun y => y = x ∨ fa y ∨ fb y) e1 T (.inl rfl) (fun y h => .inr (.inl h)) (fun y h => .inr (.inr h)) (fun y hy => ?_) q.2 rfl).1, ?_⟩
    · rcases hy with rfl | hy | hy
      · rw [e1]; exact fun h => nomatch h
      · exact B.dom T.pa hy
      · exact B.dom T.pb hy
    · intro y hy hn
      obtain ⟨_, _, _, _, q3, _⟩ := q.2
      rw [q3 y hy, k2 y hn]
  · obtain ⟨rfl, h1, h2⟩ := q
    exact ⟨h1, rfl, x, rfl, hx, h2⟩
end
structure HasC (C : Addr) : Prop where
  g : ∀ P, plainGet (Hd.KK P) C "__class__" = true
  h : ∀ P, hasDictIn (Hd.KK P) C = true
  a : ∀ P, findIn (Hd.KK P) (.ref C) "__class__" = some (some (.builtin "object.__class__"))
  n : ∀ P, specialIn (Hd.KK P) (.builtin "object.__class__") "__get__" = some (some (.builtin "getset_descriptor.__get__"))
  t : ∀ P, takesIn (Hd.KK P) (.builtin "object.__class__") = some true
  m : ∀ P, mroIn (Hd.KK P) C (.type "object") = some true
  u : ∀ P, (some (Value.builtin "object.__class__")).all (fun a => (typeIn (Hd.KK P) a).any fun t => t != .type "function" && t != .type "method_descriptor" && t != .type "wrapper_descriptor") = true
theorem hc763 : HasC 763 := ⟨fun P => by kernel_rfl, fun P => by kernel_rfl, fun P => by kernel_rfl, fun P => by kernel_rfl, fun P => by kernel_rfl, fun P => by kernel_rfl, fun P => by kernel_rfl⟩
theorem hc855 : HasC 855 := ⟨fun P => by kernel_rfl, fun P => by kernel_rfl, fun P => by kernel_rfl, fun P => by kernel_rfl, fun P => by kernel_rfl, fun P => by kernel_rfl, fun P => by kernel_rfl⟩
theorem hc982 : HasC 982 := ⟨fun P => by kernel_rfl, fun P => by kernel_rfl, fun P => by kernel_rfl, fun P => by kernel_rfl, fun P => by kernel_rfl, fun P => by kernel_rfl, fun P => by kernel_rfl⟩
section
variable {c : Cx} {m : Lc} {σ : AH} {env : Env}
theorem x_mcls {x C : Addr} {fs : List (PySem.Str × Value)} {pl : Sem Bool} {Q : Value × List Value → Lc → AH → Prop} (k : HasC C) (e : σ x = some (.inst C fs)) (h : Q (.ref C, []) m σ) : XV c m σ (getMethod (.ref x) "__class__" pl) Q := .mk fun s S => by
  obtain ⟨d, es, n, _, I, _, _, A⟩ := S.inst e
  refine method_usual (S.k.keeps S.f.keep) I (plainGet_of (k.g _)).1 (plainGet_of (k.g _)).2 (k.a _) (k.u _) ?_
  exact get_class S.f S.k I (k.g _) (k.h _) (k.a _) (k.n _) (k.t _) (k.m _) ⟨m, σ, S.tok _, h⟩
theorem x_isnot_ref {a b C D : Addr} {fs gs : List (PySem.Str × Value)} {Q : Value → Lc → AH → Prop} (ea : σ a = some (.inst C fs)) (eb : σ b = some (.inst D gs)) (h : ∀ t, (t = true ↔ a ≠ b) → Q (.bool t) m σ) : XV c m σ (compareOp .IsNot (.ref a) (.ref b)) Q := .mk fun s S => by
  by_cases q : a = b
  · subst q
    exact isnot_ref_same ⟨m, σ, S, h false ⟨fun z => (nomatch z), fun z => absurd rfl z⟩⟩
  · obtain ⟨d, es, n, _, I, h1, h2, A⟩ := S.inst ea
    obtain ⟨d', es', n', _, I', h1', h2', A'⟩ := S.inst eb
    exact wpAny_isNot_ref_other q h1 h1' (fun z => nomatch z) ⟨m, σ, S, h true ⟨fun _ => q, fun _ => rfl⟩⟩
end
section
variable {P P' : RepT} {σ σ1 σ2 : AH} {x a b : Addr} {Ra Rb : Strm} {fa fb fp : Addr → Prop} {bb bb' : Nat} {v1 v2 : Value}
theorem Kid.inst (B : Kid bb P) (p : P σ x Ra fp) : ∃ C fs, σ x = some (.inst C fs) := by
  obtain ⟨f, ⟨C, fs, e, _⟩, _⟩ := B.act p
  exact ⟨C, fs, e⟩
/-- replace, and the node that was replaced is still an object -/
structure Rq (P : RepT) (σ : AH) (x : Addr) (R : Strm) (fp : Addr → Prop) (v : Value) (σ' : AH) : Prop where
  h1 : Rpost P σ R fp v σ'
  h2 : ∃ C fs, σ' x = some (.inst C fs)
structure Rp2 (b : Nat) (P P' : RepT) : Prop where
  rpl : ∀ {σ x R fp}, P σ x R fp → Act R → ∃ f, Has σ x "replace" f ∧ Runs b σ f [.ref x] [] (Rq P' σ x R fp) ∧ ∀ t, Runs b σ f [.ref x, .int 0 t] [] (Rq P' σ x R fp)
theorem two_rpl (B : Kid bb P) (B' : Kid bb' P') {n : Node} (e : σ x = some n) (T : Two P σ x a b Ra Rb fa fb) (q1 : Rq P' σ a Ra fa v1 σ1) (q2 : Rq P' σ1 b Rb fb v2 σ2) :
    ∃ a' b' fa' fb', v1 = .ref a' ∧ v2 = .ref b' ∧ Two P' σ2 x a' b' Ra Rb fa' fb' ∧ (∀ y, fa' y ∨ fb' y → fa y ∨ fb y ∨ σ y = none) ∧ (∀ y, ¬ (fa y ∨ fb y) → σ y ≠ none → σ2 y = σ y) ∧ (∃ C fs, σ2 a = some (.inst C fs)) ∧ ∃ C fs, σ2 b = some (.inst C fs) := by
  obtain ⟨⟨a', fa', rfl, p1, k1, o1⟩, C1, f1, i1⟩ := q1
  obtain ⟨⟨b', fb', rfl, p2, k2, o2⟩, i2⟩ := q2
  have nx : σ x ≠ none := by rw [e]; exact fun h => nomatch h
  have hx1 : ¬ fa' x := fun z => (k1 x z).elim T.xa nx
  have e1 : σ1 x = some n := (o1 x T.xa nx).trans e
  have nx1 : σ1 x ≠ none := by rw [e1]; exact fun h => nomatch h
  have dis : ∀ y, fa' y → ¬ fb y := fun y h1 h2 => by
    rcases k1 y h1 with h | h
    · exact T.dis y h h2
    · exact B.dom T.pb h2 h
  refine ⟨a', b', fa', fb', rfl, rfl, ⟨B'.loc p1 fun y hy => o2 y (dis y hy) (B'.dom p1 hy), p2, fun y h1 h2 => ?_, hx1, fun z => (k2 x z).elim T.xb nx1⟩, fun y hy => ?_, fun y hy hn => ?_, ⟨C1, f1, (o2 a (fun z => T.dis a (B.self T.pa) z) (by rw [i1]; exact fun h => nomatch h)).trans i1⟩, i2⟩
  · rcases k2 y h2 with h | h
    · exact dis y h1 h
    · exact B'.dom p1 h1 h
  · rcases hy with hy | hy
    · rcases k1 y hy with h | h
      · exact .inl h
      · exact .inr (.inr h)
    · rcases k2 y hy with h | h
      · exact .inr (.inl h)
      · by_cases q : fa y
        · exact .inl q
        · by_cases q2 : σ y = none
          · exact .inr (.inr q2)
          · rw [o1 y q q2] at h; exact (q2 h).elim
  · have z := o1 y (fun q => hy (.inl q)) hn
    rw [o2 y (fun q => hy (.inr q)) (by rw [z]; exact hn), z]
end
section
variable {P P' P'' : RepT} {σ σ' : AH} {x a b : Addr} {R Ra Rb : Strm} {fa fb fp : Addr → Prop} {bb : Nat} {c : Cx} {m : Lc} {env : Env} {o : Option Value}
theorem Rpost.mono {v : Value} {fp' : Addr → Prop} (q : Rpost P' σ R fp v σ') (inc : ∀ {σ x R fp}, P' σ x R fp → P'' σ x R fp) (h : ∀ y, fp y → fp' y) : Rpost P'' σ R fp' v σ' := by
  obtain ⟨x', f', h1, h2, h3, h4⟩ := q
  exact ⟨x', f', h1, inc h2, fun y hy => (h3 y hy).imp_left (h y), fun y hy => h4 y fun z => hy (h y z)⟩
/-- what a union gives back from two kids -/
theorem union_post (B' : Kid bb P') {fa' fb' : Addr → Prop} {σ2 σ3 : AH} {x' : Addr} (hd : ∀ y, fp y → σ y ≠ none) (ha : ∀ y, fa y → fp y) (hb : ∀ y, fb y → fp y)
    (k : ∀ y, fa' y ∨ fb' y → fa y ∨ fb y ∨ σ y = none) (o2 : ∀ y, ¬ (fa y ∨ fb y) → σ y ≠ none → σ2 y = σ y) (hx : fp x' ∨ σ x' = none) (p : P'' σ3 x' R (fun y => y = x' ∨ fa' y ∨ fb' y))
    (o3 : ∀ y, ¬ fp y → σ y ≠ none → σ2 y ≠ none → σ3 y = σ2 y) : Rpost P'' σ R fp (.ref x') σ3 := by
  refine ⟨x', _, rfl, p, fun y hy => ?_, fun y hy hn => ?_⟩
  · rcases hy with rfl | hy
    · exact hx
    · rcases k y hy with h | h | h
      · exact .inl (ha y h)
      · exact .inl (hb y h)
      · exact .inr h
  · have z := o2 y (fun q => hy (q.elim (ha y) (hb y))) hn
    rw [o3 y hy hn (by rw [z]; exact hn), z]
theorem rq_off {v : Value} {y : Addr} (q : Rq P' σ a R fp v σ') (h : ¬ fp y) (hn : σ y ≠ none) : σ' y = σ y := by
  obtain ⟨⟨_, _, _, _, _, o⟩, _⟩ := q
  exact o y h hn
theorem r711 (B : Kid bb P) (B' : Kid bb P') (Z : Rp2 bb P P') (hb2 : 2 ≤ bb) (inc : ∀ {σ x R fp}, P' σ x R fp → P'' σ x R fp) (incU : ∀ {σ x R fp}, URep P' σ x R fp → P'' σ x R fp) (e : σ x = some (nUnion a b o)) (T : Two P σ x a b Ra Rb fa fb) (hA : Act (uniR Ra Rb))
    (hx : fp x) (ha : ∀ y, fa y → fp y) (hb : ∀ y, fb y → fp y) (hd : ∀ y, fp y → σ y ≠ none) :
    Runs (bb + 1) σ 711 [.ref x] [] (Rq P'' σ x (uniR Ra Rb) fp) ∧ ∀ u, Runs (bb + 1) σ 711 [.ref x, .int 0 u] [] (Rq P'' σ x (uniR Ra Rb) fp) := by
  have key : ∀ (c : Cx) u, Room c.A bb → XV c (fun y => List.lookup y [(S "self", Value.ref x), (S "minquality", Value.int 0 u)].reverse) σ (execs (Hd.fBody (Hd.subOf Hd.pw 13 1)) (envX "UnionMatcher.replace" (Hd.fScope (Hd.subOf Hd.pw 13 1)) c.L 711 (.ref 710) []))
      fun fl _ σ' => Rq P'' σ x (uniR Ra Rb) fp (retv fl) σ' := by
    intro c u r
    have hnx : σ x ≠ none := hd x hx
    repeat walk_at "g"
    refine x_fld a763a e rfl rfl ?_
    repeat walk_at "g"
    refine x_fld a763b e rfl rfl ?_
    repeat walk_at "g"
    refine x_act (B.act T.pa) r fun ta hta => ?_
    repeat walk_at "g"
    refine x_act (B.act T.pb) r fun tb htb => ?_
    repeat walk_at "g"
    refine ite_no (by decide) ?_
    refine ite_no (by decide) ?_
    repeat walk_at "g"
    cases ta with
    | false =>
      refine ite_no (by decide) ?_
      repeat walk_at "g"
      have hna : ¬ Act Ra := fun z => absurd (hta.mpr z) (by decide)
      rw [uniR_left hna] at hA ⊢
      have tbt : tb = true := htb.mpr hA
      refine ite_yes tbt ?_
      refine ite_no (by decide) ?_
      repeat walk_at "g"
      refine ite_yes rfl ?_
      obtain ⟨f, hf, _, hr⟩ := Z.rpl T.pb hA
      repeat walk_at "g"
      refine x_do1 hf ?_ (by with_unfolding_all rfl)
      repeat walk_at "g"
      refine x_runs (hr _) r fun v σ1 q => ?_
      exact ⟨q.1.mono inc hb, _, _, (rq_off q T.xb hnx).trans e⟩
    | true =>
      refine ite_yes rfl ?_
      refine ite_no (by decide) ?_
      repeat walk_at "g"
      refine ite_no (by decide) ?_
      repeat walk_at "g"
      cases tb with
      | false =>
        refine ite_yes rfl ?_
        have hnb : ¬ Act Rb := fun z => absurd (htb.mpr z) (by decide)
        rw [uniR_right hnb] at hA ⊢
        obtain ⟨f, hf, _, hr⟩ := Z.rpl T.pa hA
        repeat walk_at "g"
        refine x_do1 hf ?_ (by with_unfolding_all rfl)
        repeat walk_at "g"
        refine x_runs (hr _) r fun v σ1 q => ?_
        exact ⟨q.1.mono inc ha, _, _, (rq_off q T.xa hnx).trans e⟩
      | true =>
        refine ite_no (by decide) ?_
        have aA := hta.mp rfl
        have aB := htb.mp rfl
        obtain ⟨f, hf, _, hr⟩ := Z.rpl T.pa aA
        repeat walk_at "g"
        refine x_do1 hf ?_ (by with_unfolding_all rfl)
        refine x_ifexp ?_
        repeat walk_at "g"
        refine ite_no (by decide) ?_
        repeat walk_at "g"
        intro t1
        refine x_runs (hr _) r fun v1 σ1 q1 => ?_
        have pb1 : P σ1 b Rb fb := by
          obtain ⟨⟨_, _, _, _, _, o1⟩, _⟩ := q1
          exact B.loc T.pb fun y hy => o1 y (fun z => T.dis y z hy) (B.dom T.pb hy)
        obtain ⟨f, hf, _, hr⟩ := Z.rpl pb1 aB
        repeat walk_at "g"
        refine x_do1 hf ?_ (by with_unfolding_all rfl)
        refine x_ifexp ?_
        repeat walk_at "g"
        refine ite_no (by decide) ?_
        repeat walk_at "g"
        intro t2
        refine x_runs (hr _) r fun v2 σ2 q2 => ?_
        obtain ⟨a', b', fa', fb', rfl, rfl, T2, k2, o2, ⟨C3, g3, ea⟩, C4, g4, eb⟩ := two_rpl B B' e T q1 q2
        have e2 : σ2 x = some (nUnion a b o) := (o2 x (fun z => z.elim T.xa T.xb) (hd x hx)).trans e
        obtain ⟨C1, g1, ea'⟩ := B'.inst T2.pa
        obtain ⟨C2, g2, eb'⟩ := B'.inst T2.pb
        have fin : ∀ (x' : Addr) (σ3 : AH), σ2 x' = none → URep P' σ3 x' (uniR Ra Rb) (fun y => y = x' ∨ fa' y ∨ fb' y) → (∀ y, σ2 y ≠ none → σ3 y = σ2 y) → Rq P'' σ x (uniR Ra Rb) fp (.ref x') σ3 := by
          intro x' σ3 hn' hU o3
          refine ⟨union_post B' hd ha hb k2 o2 ?_ (incU hU) fun y _ _ h => o3 y h, _, _, (o3 x (by rw [e2]; exact fun h => nomatch h)).trans e2⟩
          by_cases z : fp x'
          · exact .inl z
          · refine .inr ?_
            rcases w : σ x' with _ | n
            · rfl
            · rw [o2 x' (fun q => z (q.elim (ha x') (hb x'))) (by rw [w]; exact fun h => nomatch h), w] at hn'; cases hn'
        repeat walk_at "g"
        refine x_fld a763a e2 rfl rfl ?_
        refine x_isnot_ref ea' ea fun t1 ht1 => ?_
        repeat walk_at "g"
        cases t1 with
        | true =>
          refine ite_yes rfl ?_
          refine ite_yes rfl ?_
          repeat walk_at "g"
          refine x_mcls hc763 e2 ?_
          refine x_cw g_UnionMatcher.2 ?_
          repeat walk_at "g"
          refine x_runs (make_union B' T2.pa T2.pb T2.dis) (r.mono hb2) fun v σ3 q => ?_
          obtain ⟨x', rfl, hn', hU, o3⟩ := q
          exact fin x' _ hn' hU o3
        | false =>
          refine ite_no (by decide) ?_
          repeat walk_at "g"
          refine x_fld a763b e2 rfl rfl ?_
          refine x_isnot_ref eb' eb fun t2 ht2 => ?_
          repeat walk_at "g"
          cases t2 with
          | true =>
            refine ite_yes rfl ?_
            refine ite_yes rfl ?_
            repeat walk_at "g"
            refine x_mcls hc763 e2 ?_
            refine x_cw g_UnionMatcher.2 ?_
            repeat walk_at "g"
            refine x_runs (make_union B' T2.pa T2.pb T2.dis) (r.mono hb2) fun v σ3 q => ?_
            obtain ⟨x', rfl, hn', hU, o3⟩ := q
            exact fin x' _ hn' hU o3
          | false =>
            refine ite_no (by decide) ?_
            repeat walk_at "g"
            refine ite_no (by decide) ?_
            repeat walk_at "g"
            refine x_uset e2 ?_
            dsimp only
            repeat walk_at "g"
            have qa : a' = a := Classical.byContradiction fun z => absurd (ht1.mpr z) (by decide)
            have qb : b' = b := Classical.byContradiction fun z => absurd (ht2.mpr z) (by decide)
            subst qa qb
            have T3 : Two P' (Mine.put σ2 x (nUnion a' b' (some .none))) x a' b' Ra Rb fa' fb' := T2.put B'
            refine ⟨union_post B' (σ2 := σ2) hd ha hb k2 o2 (.inl hx) (incU ⟨a', b', some .none, Ra, Rb, fa', fb', put_self _ _ _, T3, rfl, fun v z => .inl (Option.some.inj z).symm, .inl rfl, fun y h => .inr (.inl h), fun y h => .inr (.inr h), fun y hy => ?_⟩) fun y hy _ _ => put_ne fun z => hy (z ▸ hx), _, _, put_self _ _ _⟩
            rcases hy with rfl | hy | hy
            · rw [put_self]; exact fun h => nomatch h
            · exact B'.dom T3.pa hy
            · exact B'.dom T3.pb hy
  refine ⟨?_, fun u => ?_⟩
  · exact runs (binds := [(S "self", .ref x), (S "minquality", .int 0 979)]) f711 c711 (fun P s X => .of_defaults (T := 704) rfl (X _ _ (d711 P)) rfl (by rfl) (by rfl)) (by rfl) (by rfl) (by exact ⟨rfl, rfl, rfl⟩) fun c r => key c 979 r
  · exact runs (binds := [(S "self", .ref x), (S "minquality", .int 0 u)]) f711 c711 (fun P s X => .of_defaults (T := 704) rfl (X _ _ (d711 P)) rfl (by rfl) (by rfl)) (by rfl) (by rfl) (by exact ⟨rfl, rfl, rfl⟩) fun c r => key c u r
end
section
variable {P P' P'' : RepT} {σ σ' : AH} {x a b : Addr} {R Ra Rb : Strm} {fa fb fp : Addr → Prop} {bb : Nat} {c : Cx} {m : Lc} {env : Env} {o : Option Value}
theorem r803 (B : Kid bb P) (B' : Kid bb P') (Z : Rp2 bb P P') (inc : ∀ {σ x R fp}, P' σ x R fp → P'' σ x R fp) (incU : ∀ {σ x R fp}, IRep P' σ x R fp → P'' σ x R fp) (e : σ x = some (nTwo 855 a b)) (T : Two P σ x a b Ra Rb fa fb) (hc : Act Ra ∧ Act Rb → ∃ i wa wb, Hdd Ra i wa ∧ Hdd Rb i wb) (hA : Act (intR Ra Rb))
    (hx : fp x) (ha : ∀ y, fa y → fp y) (hb : ∀ y, fb y → fp y) (hd : ∀ y, fp y → σ y ≠ none) :
    Runs (bb + 6) σ 803 [.ref x] [] (Rq P'' σ x (intR Ra Rb) fp) ∧ ∀ u, Runs (bb + 6) σ 803 [.ref x, .int 0 u] [] (Rq P'' σ x (intR Ra Rb) fp) := by
  have key : ∀ (c : Cx) u, Room c.A (bb + 5) → XV c (fun y => List.lookup y [(S "self", Value.ref x), (S "minquality", Value.int 0 u)].reverse) σ (execs (Hd.fBody (Hd.subOf Hd.pw 14 3)) (envX "IntersectionMatcher.replace" (Hd.fScope (Hd.subOf Hd.pw 14 3)) c.L 803 (.ref 802) []))
      fun fl _ σ' => Rq P'' σ x (intR Ra Rb) fp (retv fl) σ' := by
    intro c u r
    have hb2 : bb + 5 ≤ bb + 5 := Nat.le_refl _
    have r0 := r.mono (show bb ≤ bb + 5 by omega)
    have hnx : σ x ≠ none := hd x hx
    obtain ⟨aA, aB⟩ := intR_act hA
    repeat walk_at "g"
    refine x_fld a855a e rfl rfl ?_
    repeat walk_at "g"
    refine x_fld a855b e rfl rfl ?_
    repeat walk_at "g"
    refine x_act (B.act T.pa) r0 fun ta hta => ?_
    repeat walk_at "g"
    refine x_act (B.act T.pb) r0 fun tb htb => ?_
    repeat walk_at "g"
    refine ite_yes (hta.mpr aA) ?_
    repeat walk_at "g"
    refine ite_yes (htb.mpr aB) ?_
    repeat walk_at "g"
    refine ite_no (by decide) ?_
    repeat walk_at "g"
    refine ite_no (by decide) ?_
    repeat walk_at "g"
    intro t0
    repeat walk_at "g"
    obtain ⟨f, hf, _, hr⟩ := Z.rpl T.pa aA
    refine x_do1 hf ?_ (by with_unfolding_all rfl)
    repeat walk_at "g"
    refine x_runs (hr _) r0 fun v1 σ1 q1 => ?_
    have pb1 : P σ1 b Rb fb := by
      obtain ⟨⟨_, _, _, _, _, o1⟩, _⟩ := q1
      exact B.loc T.pb fun y hy => o1 y (fun z => T.dis y z hy) (B.dom T.pb hy)
    obtain ⟨f, hf, _, hr⟩ := Z.rpl pb1 aB
    repeat walk_at "g"
    refine x_do1 hf ?_ (by with_unfolding_all rfl)
    repeat walk_at "g"
    refine x_runs (hr _) r0 fun v2 σ2 q2 => ?_
    obtain ⟨a', b', fa', fb', rfl, rfl, T2, k2, o2, ⟨C3, g3, ea⟩, C4, g4, eb⟩ := two_rpl B B' e T q1 q2
    have e2 : σ2 x = some (nTwo 855 a b) := (o2 x (fun z => z.elim T.xa T.xb) (hd x hx)).trans e
    obtain ⟨C1, g1, ea'⟩ := B'.inst T2.pa
    obtain ⟨C2, g2, eb'⟩ := B'.inst T2.pb
    repeat walk_at "g"
    refine x_act (B'.act T2.pa) r0 fun ta hta => ?_
    repeat walk_at "g"
    refine x_act (B'.act T2.pb) r0 fun tb htb => ?_
    have tat : ta = true := hta.mpr aA
    have tbt : tb = true := htb.mpr aB
    subst tat tbt
    repeat walk_at "g"
    refine ite_yes rfl ?_
    refine ite_no (by decide) ?_
    repeat walk_at "g"
    refine ite_no (by decide) ?_
    repeat walk_at "g"
    refine ite_no (by decide) ?_
    have fin : ∀ (x' : Addr) (σ3 : AH), σ2 x' = none → IRep P' σ3 x' (intR Ra Rb) (fun y => y = x' ∨ fa' y ∨ fb' y) → (∀ y, ¬ (fa' y ∨ fb' y) → σ2 y ≠ none → σ3 y = σ2 y) → Rq P'' σ x (intR Ra Rb) fp (.ref x') σ3 := by
      intro x' σ3 hn' hU o3
      refine ⟨union_post B' hd ha hb k2 o2 ?_ (incU hU) fun y hy hn h => o3 y (fun z => (k2 y z).elim (fun z => hy (ha y z)) fun z => z.elim (fun z => hy (hb y z)) hn) h, _, _, (o3 x (fun z => z.elim T2.xa T2.xb) (by rw [e2]; exact fun h => nomatch h)).trans e2⟩
      by_cases z : fp x'
      · exact .inl z
      · refine .inr ?_
        rcases w : σ x' with _ | n
        · rfl
        · rw [o2 x' (fun q => z (q.elim (ha x') (hb x'))) (by rw [w]; exact fun h => nomatch h), w] at hn'; cases hn'
    repeat walk_at "g"
    refine x_fld a855a e2 rfl rfl ?_
    refine x_isnot_ref ea' ea fun t1 ht1 => ?_
    repeat walk_at "g"
    cases t1 with
    | true =>
      refine ite_yes rfl ?_
      refine ite_yes rfl ?_
      repeat walk_at "g"
      refine x_mcls hc855 e2 ?_
      refine x_cw g_IntersectionMatcher.2 ?_
      repeat walk_at "g"
      refine x_runs (make_inter B' T2.pa T2.pb T2.dis) (r.mono hb2) fun v σ3 q => ?_
      obtain ⟨x', rfl, hn', hU, o3⟩ := q
      exact fin x' _ hn' hU o3
    | false =>
      refine ite_no (by decide) ?_
      repeat walk_at "g"
      refine x_fld a855b e2 rfl rfl ?_
      refine x_isnot_ref eb' eb fun t2 ht2 => ?_
      repeat walk_at "g"
      cases t2 with
      | true =>
        refine ite_yes rfl ?_
        refine ite_yes rfl ?_
        repeat walk_at "g"
        refine x_mcls hc855 e2 ?_
        refine x_cw g_IntersectionMatcher.2 ?_
        repeat walk_at "g"
        refine x_runs (make_inter B' T2.pa T2.pb T2.dis) (r.mono hb2) fun v σ3 q => ?_
        obtain ⟨x', rfl, hn', hU, o3⟩ := q
        exact fin x' _ hn' hU o3
      | false =>
        refine ite_no (by decide) ?_
        repeat walk_at "g"
        refine ite_no (by decide) ?_
        repeat walk_at "g"
        have qa : a' = a := Classical.byContradiction fun z => absurd (ht1.mpr z) (by decide)
        have qb : b' = b := Classical.byContradiction fun z => absurd (ht2.mpr z) (by decide)
        subst qa qb
        refine ⟨union_post B' (σ2 := σ2) hd ha hb k2 o2 (.inl hx) (incU ⟨a', b', Ra, Rb, fa', fb', e2, T2, rfl, hc, .inl rfl, fun y h => .inr (.inl h), fun y h => .inr (.inr h), fun y hy => ?_⟩) fun y hy _ _ => rfl, _, _, e2⟩
        rcases hy with rfl | hy | hy
        · rw [e2]; exact fun h => nomatch h
        · exact B'.dom T2.pa hy
        · exact B'.dom T2.pb hy
  refine ⟨?_, fun u => ?_⟩
  · exact runs (binds := [(S "self", .ref x), (S "minquality", .int 0 1107)]) f803 c803 (fun P s X => .of_defaults (T := 796) rfl (X _ _ (d803 P)) rfl (by rfl) (by rfl)) (by rfl) (by rfl) (by exact ⟨rfl, rfl, rfl⟩) fun c r => key c 1107 r
  · exact runs (binds := [(S "self", .ref x), (S "minquality", .int 0 u)]) f803 c803 (fun P s X => .of_defaults (T := 796) rfl (X _ _ (d803 P)) rfl (by rfl) (by rfl)) (by rfl) (by rfl) (by exact ⟨rfl, rfl, rfl⟩) fun c r => key c u r
theorem r916 (B : Kid bb P) (B' : Kid bb P') (Z : Rp2 bb P P') (inc : ∀ {σ x R fp}, P' σ x R fp → P'' σ x R fp) (incU : ∀ {σ x R fp}, NRep P' σ x R fp → P'' σ x R fp) (e : σ x = some (nTwo 982 a b)) (T : Two P σ x a b Ra Rb fa fb) (hc : Good Ra Rb) (hA : Act (notR Ra Rb))
    (hx : fp x) (ha : ∀ y, fa y → fp y) (hb : ∀ y, fb y → fp y) (hd : ∀ y, fp y → σ y ≠ none) :
    Runs (bb + 6) σ 916 [.ref x] [] (Rq P'' σ x (notR Ra Rb) fp) ∧ ∀ u, Runs (bb + 6) σ 916 [.ref x, .int 0 u] [] (Rq P'' σ x (notR Ra Rb) fp) := by
  have key : ∀ (c : Cx) u, Room c.A (bb + 5) → XV c (fun y => List.lookup y [(S "self", Value.ref x), (S "minquality", Value.int 0 u)].reverse) σ (execs (Hd.fBody (Hd.subOf Hd.pw 15 6)) (envX "AndNotMatcher.replace" (Hd.fScope (Hd.subOf Hd.pw 15 6)) c.L 916 (.ref 915) []))
      fun fl _ σ' => Rq P'' σ x (notR Ra Rb) fp (retv fl) σ' := by
    intro c u r
    have hb2 : bb + 5 ≤ bb + 5 := Nat.le_refl _
    have r0 := r.mono (show bb ≤ bb + 5 by omega)
    have hnx : σ x ≠ none := hd x hx
    have aA := notR_act hA
    repeat walk_at "g"
    refine x_fld a982a e rfl rfl ?_
    refine x_act (B.act T.pa) r0 fun ta hta => ?_
    repeat walk_at "g"
    refine ite_no (by rw [hta.mpr aA]; decide) ?_
    repeat walk_at "g"
    refine ite_no (by decide) ?_
    refine ite_no (by decide) ?_
    repeat walk_at "g"
    refine x_fld a982b e rfl rfl ?_
    refine x_act (B.act T.pb) r0 fun tb htb => ?_
    repeat walk_at "g"
    by_cases aB : Act Rb
    case neg =>
      refine ite_yes (by cases tb with | false => rfl | true => exact (aB (htb.mp rfl)).elim) ?_
      rw [notR_dead aB]
      obtain ⟨f, hf, _, hr⟩ := Z.rpl T.pa aA
      repeat walk_at "g"
      refine x_fld a982a e rfl rfl ?_
      refine x_do1 hf ?_ (by with_unfolding_all rfl)
      repeat walk_at "g"
      refine x_runs (hr _) r0 fun v σ1 q => ?_
      exact ⟨q.1.mono inc ha, _, _, (rq_off q T.xa hnx).trans e⟩
    refine ite_no (by rw [htb.mpr aB]; decide) ?_
    obtain ⟨f, hf, _, hr⟩ := Z.rpl T.pa aA
    repeat walk_at "g"
    refine x_fld a982a e rfl rfl ?_
    refine x_do1 hf ?_ (by with_unfolding_all rfl)
    repeat walk_at "g"
    refine x_runs (hr _) r0 fun v1 σ1 q1 => ?_
    have pb1 : P σ1 b Rb fb := by
      obtain ⟨⟨_, _, _, _, _, o1⟩, _⟩ := q1
      exact B.loc T.pb fun y hy => o1 y (fun z => T.dis y z hy) (B.dom T.pb hy)
    have e1 : σ1 x = some (nTwo 982 a b) := (rq_off q1 T.xa hnx).trans e
    obtain ⟨f, hf, hr, _⟩ := Z.rpl pb1 aB
    repeat walk_at "g"
    refine x_fld a982b e1 rfl rfl ?_
    refine x_do0 hf hr r0 fun v2 σ2 q2 => ?_
    obtain ⟨a', b', fa', fb', rfl, rfl, T2, k2, o2, ⟨C3, g3, ea⟩, C4, g4, eb⟩ := two_rpl B B' e T q1 q2
    have e2 : σ2 x = some (nTwo 982 a b) := (o2 x (fun z => z.elim T.xa T.xb) (hd x hx)).trans e
    obtain ⟨C1, g1, ea'⟩ := B'.inst T2.pa
    obtain ⟨C2, g2, eb'⟩ := B'.inst T2.pb
    have fin : ∀ (x' : Addr) (σ3 : AH), σ2 x' = none → NRep P' σ3 x' (notR Ra Rb) (fun y => y = x' ∨ fa' y ∨ fb' y) → (∀ y, ¬ (fa' y ∨ fb' y) → σ2 y ≠ none → σ3 y = σ2 y) → Rq P'' σ x (notR Ra Rb) fp (.ref x') σ3 := by
      intro x' σ3 hn' hU o3
      refine ⟨union_post B' hd ha hb k2 o2 ?_ (incU hU) fun y hy hn h => o3 y (fun z => (k2 y z).elim (fun z => hy (ha y z)) fun z => z.elim (fun z => hy (hb y z)) hn) h, _, _, (o3 x (fun z => z.elim T2.xa T2.xb) (by rw [e2]; exact fun h => nomatch h)).trans e2⟩
      by_cases z : fp x'
      · exact .inl z
      · refine .inr ?_
        rcases w : σ x' with _ | n
        · rfl
        · rw [o2 x' (fun q => z (q.elim (ha x') (hb x'))) (by rw [w]; exact fun h => nomatch h), w] at hn'; cases hn'
    repeat walk_at "g"
    refine x_fld a982a e2 rfl rfl ?_
    refine x_isnot_ref ea' ea fun t1 ht1 => ?_
    repeat walk_at "g"
    cases t1 with
    | true =>
      refine ite_yes rfl ?_
      refine ite_yes rfl ?_
      repeat walk_at "g"
      refine x_mcls hc982 e2 ?_
      refine x_cw g_AndNotMatcher.2 ?_
      repeat walk_at "g"
      refine x_runs (make_not B' T2.pa T2.pb T2.dis (hc aA).1) (r.mono hb2) fun v σ3 q => ?_
      obtain ⟨x', rfl, hn', hU, o3⟩ := q
      exact fin x' _ hn' hU o3
    | false =>
      refine ite_no (by decide) ?_
      repeat walk_at "g"
      refine x_fld a982b e2 rfl rfl ?_
      refine x_isnot_ref eb' eb fun t2 ht2 => ?_
      repeat walk_at "g"
      cases t2 with
      | true =>
        refine ite_yes rfl ?_
        refine ite_yes rfl ?_
        repeat walk_at "g"
        refine x_mcls hc982 e2 ?_
        refine x_cw g_AndNotMatcher.2 ?_
        repeat walk_at "g"
        refine x_runs (make_not B' T2.pa T2.pb T2.dis (hc aA).1) (r.mono hb2) fun v σ3 q => ?_
        obtain ⟨x', rfl, hn', hU, o3⟩ := q
        exact fin x' _ hn' hU o3
      | false =>
        refine ite_no (by decide) ?_
        repeat walk_at "g"
        refine ite_no (by decide) ?_
        repeat walk_at "g"
        have qa : a' = a := Classical.byContradiction fun z => absurd (ht1.mpr z) (by decide)
        have qb : b' = b := Classical.byContradiction fun z => absurd (ht2.mpr z) (by decide)
        subst qa qb
        refine ⟨union_post B' (σ2 := σ2) hd ha hb k2 o2 (.inl hx) (incU ⟨a', b', Ra, Rb, fa', fb', e2, T2, rfl, hc, .inl rfl, fun y h => .inr (.inl h), fun y h => .inr (.inr h), fun y hy => ?_⟩) fun y hy _ _ => rfl, _, _, e2⟩
        rcases hy with rfl | hy | hy
        · rw [e2]; exact fun h => nomatch h
        · exact B'.dom T2.pa hy
        · exact B'.dom T2.pb hy
  refine ⟨?_, fun u => ?_⟩
  · exact runs (binds := [(S "self", .ref x), (S "minquality", .int 0 1254)]) f916 c916 (fun P s X => .of_defaults (T := 909) rfl (X _ _ (d916 P)) rfl (by rfl) (by rfl)) (by rfl) (by rfl) (by exact ⟨rfl, rfl, rfl⟩) fun c r => key c 1254 r
  · exact runs (binds := [(S "self", .ref x), (S "minquality", .int 0 u)]) f916 c916 (fun P s X => .of_defaults (T := 909) rfl (X _ _ (d916 P)) rfl (by rfl) (by rfl)) (by rfl) (by rfl) (by exact ⟨rfl, rfl, rfl⟩) fun c r => key c u r
end
theorem rp2_multi {P : RepT} {bb : Nat} (B : Kid bb P) : Rp2 (bb + 3) (MRep P) (MRep P) where
  rpl := by
    rintro σ x R fp ⟨ml, ol, sc, n, cur, t, as, os, Rk, fk, H, ha, hR, hx, hm, ho, hs, hk, hd⟩ hA
    have hl := (MC.actR ha hR).mpr hA
    have post : ∀ v σ', (v = .ref x ∧ σ = σ') → Rq (MRep P) σ x R fp v σ' := by
      rintro v σ' ⟨rfl, rfl⟩
      exact ⟨⟨x, fp, rfl, ⟨ml, ol, sc, n, cur, t, as, os, Rk, fk, H, ha, hR, hx, hm, ho, hs, hk, hd⟩, fun a h => .inl h, fun y _ _ => rfl⟩, _, _, H.e⟩
    exact ⟨520, ⟨_, _, H.e, rfl, m593_replace⟩, (r520 (b := bb + 1) H hl).1.mono (Nat.le_refl _) post, fun u => ((r520 (b := bb + 1) H hl).2 u).mono (Nat.le_refl _) post⟩
section
variable {P P' P'' : RepT} {bb : Nat}
theorem rp2_union (B : Kid bb P) (B' : Kid bb P') (Z : Rp2 bb P P') (hb2 : 2 ≤ bb) (inc : ∀ {σ x R fp}, P' σ x R fp → P'' σ x R fp) (incU : ∀ {σ x R fp}, URep P' σ x R fp → P'' σ x R fp) : Rp2 (bb + 1) (URep P) P'' where
  rpl := by
    rintro σ x R fp ⟨a, b, o, Ra, Rb, fa, fb, e, T, rfl, hc, hx, ha, hb, hd⟩ hA
    exact ⟨711, ⟨_, _, e, by cases o <;> rfl, m763_replace⟩, r711 B B' Z hb2 inc incU e T hA hx ha hb hd⟩
theorem rp2_inter (B : Kid bb P) (B' : Kid bb P') (Z : Rp2 bb P P') (inc : ∀ {σ x R fp}, P' σ x R fp → P'' σ x R fp) (incU : ∀ {σ x R fp}, IRep P' σ x R fp → P'' σ x R fp) : Rp2 (bb + 6) (IRep P) P'' where
  rpl := by
    rintro σ x R fp ⟨a, b, Ra, Rb, fa, fb, e, T, rfl, hc, hx, ha, hb, hd⟩ hA
    exact ⟨803, ⟨_, _, e, rfl, m855_replace⟩, r803 B B' Z inc incU e T hc hA hx ha hb hd⟩
theorem rp2_not (B : Kid bb P) (B' : Kid bb P') (Z : Rp2 bb P P') (inc : ∀ {σ x R fp}, P' σ x R fp → P'' σ x R fp) (incU : ∀ {σ x R fp}, NRep P' σ x R fp → P'' σ x R fp) : Rp2 (bb + 6) (NRep P) P'' where
  rpl := by
    rintro σ x R fp ⟨a, b, Ra, Rb, fa, fb, e, T, rfl, hc, hx, ha, hb, hd⟩ hA
    exact ⟨916, ⟨_, _, e, rfl, m982_replace⟩, r916 B B' Z inc incU e T hc hA hx ha hb hd⟩
end
section
variable {P : RepT} {σ σ' : AH} {x : Addr} {bb : Nat}
/-- WeightScorer.__init__ -/
theorem r1139 {n : Int} {t : Tok} (e : σ x = some (.inst 1170 [])) : Runs (bb + 1) σ 1139 [.ref x, .int n t] [] fun v σ' => v = .none ∧ σ' = put σ x (.inst 1170 [(S "_maxweight", .int n t)]) := by
  refine runs (binds := [(S "self", .ref x), (S "maxweight", .int n t)]) f1139 c1139 (fun P s X => .of_eq (by rfl)) (by rfl) (by rfl) (by exact ⟨rfl, rfl, rfl⟩) fun c r => ?_
  repeat walk_at "g"
  refine x_set a1170_maxweight e (Nat.le_of_ble_eq_true rfl) rfl ?_
  dsimp only
  repeat walk_at "g"
  exact ⟨rfl, rfl⟩
theorem make_scorer (n : Int) (t : Tok) : Runs 2 σ 1170 [.int n t] [] fun v σ' => ∃ x, v = .ref x ∧ σ x = none ∧ σ' = put σ x (.inst 1170 [(S "_maxweight", .int n t)]) := by
  intro c m r
  refine xc_make n_WeightScorer i_WeightScorer.1 i_WeightScorer.2 r fun x A' hx hr => ?_
  refine (r1139 (bb := 0) (put_self _ _ _) { c with A := A' } m hr).mono fun v m' σ' q => ?_
  obtain ⟨rfl, rfl, rfl⟩ := q
  exact ⟨rfl, rfl, x, rfl, hx, put_put _ _ _ _⟩
/-- ListMatcher.__init__ -/
theorem r309 {l w : Addr} (e : σ x = some (.inst 453 [])) : Runs (bb + 1) σ 309 [.ref x, .ref l] [(S "weights", .ref w)] fun v σ' => v = .none ∧ σ' = put σ x (nList l w 0 508) := by
  refine runs (binds := [(S "self", .ref x), (S "ids", .ref l), (S "weights", .ref w), (S "values", .none), (S "format", .none), (S "scorer", .none), (S "position", .int 0 508), (S "all_weights", .none), (S "term", .none), (S "terminfo", .none)]) f309 c309
    (fun P s X => .of_defaults (T := 302) rfl (X _ _ (d309 P)) rfl (by rfl) (by rfl)) (by rfl) (by rfl) (by exact ⟨rfl, rfl, rfl⟩) fun c r => ?_
  repeat walk_at "g"
  refine x_set a453_ids e (Nat.le_of_ble_eq_true rfl) rfl ?_
  dsimp only
  repeat walk_at "g"
  refine x_set a453_weights (put_self _ _ _) (Nat.le_of_ble_eq_true rfl) rfl ?_
  dsimp only
  rw [put_put]
  repeat walk_at "g"
  refine x_set a453_all_weights (put_self _ _ _) (Nat.le_of_ble_eq_true rfl) rfl ?_
  dsimp only
  rw [put_put]
  repeat walk_at "g"
  refine x_set a453_values (put_self _ _ _) (Nat.le_of_ble_eq_true rfl) rfl ?_
  dsimp only
  rw [put_put]
  repeat walk_at "g"
  refine x_set a453_i (put_self _ _ _) (Nat.le_of_ble_eq_true rfl) rfl ?_
  dsimp only
  rw [put_put]
  repeat walk_at "g"
  refine x_set a453_format (put_self _ _ _) (Nat.le_of_ble_eq_true rfl) rfl ?_
  dsimp only
  rw [put_put]
  repeat walk_at "g"
  refine x_set a453_scorer (put_self _ _ _) (Nat.le_of_ble_eq_true rfl) rfl ?_
  dsimp only
  rw [put_put]
  repeat walk_at "g"
  refine x_set a453_term (put_self _ _ _) (Nat.le_of_ble_eq_true rfl) rfl ?_
  dsimp only
  rw [put_put]
  repeat walk_at "g"
  refine x_set a453_terminfo (put_self _ _ _) (Nat.le_of_ble_eq_true rfl) rfl ?_
  dsimp only
  rw [put_put]
  repeat walk_at "g"
  exact ⟨rfl, rfl⟩
/-- a ListMatcher made -/
theorem make_list {l w : Addr} {vs vw : List Value} {ps ws : List Int} {R : Strm} (el : σ l = some (.list vs)) (ew : σ w = some (.list vw)) (hi : Ints vs ps) (hw : Ints vw ws) (hl : ps.length = ws.length) (hz : vs.length < 2 ^ 62)
    (hs : ∀ (j k : Nat) (p q : Int), j < k → ps[j]? = some p → ps[k]? = some q → p < q) (hR : ∀ p v, R p = some v ↔ ∃ k : Nat, ps[k]? = some p ∧ ws[k]? = some v) :
    Runs 2 σ 453 [.ref l] [(S "weights", .ref w)] fun v σ' => ∃ x, v = .ref x ∧ σ x = none ∧ LRep σ' x R (fun y => y = x ∨ y = l ∨ y = w) ∧ ∀ y, σ y ≠ none → σ' y = σ y := by
  intro c m r
  refine xc_make n_ListMatcher i_ListMatcher.1 i_ListMatcher.2 r fun x A' hx hr => ?_
  refine (r309 (bb := 0) (put_self _ _ _) { c with A := A' } m hr).mono fun v m' σ' q => ?_
  obtain ⟨rfl, rfl, rfl⟩ := q
  rw [put_put]
  have xl : l ≠ x := fun q => by rw [q, hx] at el; cases el
  have xw : w ≠ x := fun q => by rw [q, hx] at ew; cases ew
  refine ⟨rfl, rfl, x, rfl, hx, ⟨l, w, vs, vw, ps, ws, 0, 508, put_self _ _ _, by rw [put_ne xl]; exact el, by rw [put_ne xw]; exact ew, hi, hw, hl, Nat.zero_le _, hz, hs, fun p v => (hR p v).trans ⟨?_, ?_⟩, rfl⟩, fun y hy => put_ne fun q => hy (q ▸ hx)⟩
  · rintro ⟨k, h⟩; exact ⟨k, Nat.zero_le _, h⟩
  · rintro ⟨k, _, h⟩; exact ⟨k, h⟩
/-- MultiMatcher.__init__ -/
theorem r470 {QQ : AH → Prop} {ml ol sc : Addr} (e : σ x = some (.inst 593 [])) (hn : Runs bb (put σ x (nMulti ml ol sc 0 696)) 498 [.ref x] [] (fun v σ' => v = .none ∧ QQ σ')) :
    Runs (bb + 1) σ 470 [.ref x, .ref ml, .ref ol] [(S "scorer", .ref sc)] fun v σ' => v = .none ∧ QQ σ' := by
  refine runs (binds := [(S "self", .ref x), (S "matchers", .ref ml), (S "idoffsets", .ref ol), (S "scorer", .ref sc), (S "current", .int 0 696)]) f470 c470
    (fun P s X => .of_defaults (T := 463) rfl (X _ _ (d470 P)) rfl (by rfl) (by rfl)) (by rfl) (by rfl) (by exact ⟨rfl, rfl, rfl⟩) fun c r => ?_
  repeat walk_at "g"
  refine x_set a593matchers e (Nat.le_of_ble_eq_true rfl) rfl ?_
  dsimp only
  repeat walk_at "g"
  refine x_set a593offsets (put_self _ _ _) (Nat.le_of_ble_eq_true rfl) rfl ?_
  dsimp only
  rw [put_put]
  repeat walk_at "g"
  refine x_set a593scorer (put_self _ _ _) (Nat.le_of_ble_eq_true rfl) rfl ?_
  dsimp only
  rw [put_put]
  repeat walk_at "g"
  refine x_set a593current (put_self _ _ _) (Nat.le_of_ble_eq_true rfl) rfl ?_
  dsimp only
  rw [put_put]
  repeat walk_at "g"
  refine x_do0 ⟨_, _, put_self _ _ _, rfl, m593__next_matcher⟩ hn r fun v σ' q => ?_
  obtain ⟨rfl, q⟩ := q
  refine ⟨fun a => (nomatch ·), ?_⟩
  repeat walk_at "g"
  exact ⟨rfl, q⟩
/-- a MultiMatcher made -/
theorem make_multi (B : Kid bb P) {ml ol sc : Addr} {n : Nat} {as : Nat → Addr} {os : Nat → Int} {Rk : Nat → Strm} {fk : Nat → Addr → Prop} {R : Strm}
    (em : ∃ vm, σ ml = some (.list vm) ∧ vm.length = n ∧ ∀ k, k < n → vm[k]? = some (.ref (as k)))
    (eo : ∃ vo, σ ol = some (.list vo) ∧ vo.length = n ∧ ∀ k, k < n → ∃ t, vo[k]? = some (.int (os k) t))
    (es : ∃ fs, σ sc = some (.inst 1170 fs) ∧ fs.lookup (S "score") = none)
    (kids : ∀ k, k < n → P σ (as k) (Rk k) (fk k)) (dis : ∀ j k y, j < n → k < n → fk j y → fk k y → j = k)
    (off : ∀ k y, k < n → fk k y → y ≠ ml ∧ y ≠ ol ∧ y ≠ sc) (hn : n < 2 ^ 62)
    (ord : ∀ j k p q v v', j < k → k < n → Rk j p = some v → Rk k q = some v' → p + os j < q + os k)
    (hR : ∀ p v, R p = some v ↔ ∃ k, k < n ∧ Rk k (p - os k) = some v) :
    Runs (bb + 3) σ 593 [.ref ml, .ref ol] [(S "scorer", .ref sc)] fun v σ' => ∃ x, v = .ref x ∧ σ x = none ∧ MRep P σ' x R (fun y => y = x ∨ y = ml ∨ y = ol ∨ y = sc ∨ ∃ k, k < n ∧ fk k y) ∧ ∀ y, σ y ≠ none → σ' y = σ y := by
  intro c m r
  obtain ⟨vm, m1, m2⟩ := em
  obtain ⟨vo, o1, o2⟩ := eo
  obtain ⟨fs, s1, s2⟩ := es
  refine xc_make n_MultiMatcher i_MultiMatcher.1 i_MultiMatcher.2 r fun x A' hx hr => ?_
  have nx : ∀ {y n'}, σ y = some n' → y ≠ x := fun h q => by rw [q, hx] at h; cases h
  have H : MC P (put σ x (nMulti ml ol sc 0 696)) x ml ol sc n 0 696 as os Rk fk :=
    { e := put_self _ _ _, em := ⟨vm, by rw [put_ne (nx m1)]; exact m1, m2⟩, eo := ⟨vo, by rw [put_ne (nx o1)]; exact o1, o2⟩, es := ⟨fs, by rw [put_ne (nx s1)]; exact s1, s2⟩,
      kids := fun k _ h => B.loc (kids k h) fun y hy => put_ne fun q => B.dom (kids k h) hy (q ▸ hx),
      dis := fun j k y _ h1 _ h2 => dis j k y h1 h2, off := fun k y _ h hy => ⟨fun q => B.dom (kids k h) hy (q ▸ hx), off k y h hy⟩,
      hn := hn, hc := Nat.zero_le _, ord := fun j k p q v v' _ h1 h2 => ord j k p q v v' h1 h2 }
  refine (r470 (bb := bb + 1) (x := x) (ml := ml) (ol := ol) (sc := sc) (put_self _ _ _) (by rw [put_put]; exact r498 B H) { c with A := A' } m hr).mono fun v m' σ' q => ?_
  obtain ⟨rfl, rfl, cur', t', rfl, k1, k2, k3, k4⟩ := q
  rw [put_put]
  have H2 := H.put (t' := t') B k1 k2
  rw [put_put] at H2
  refine ⟨rfl, rfl, x, rfl, hx, ⟨ml, ol, sc, n, cur', t', as, os, Rk, fk, H2, k4, fun p v => (hR p v).trans ⟨?_, ?_⟩, .inl rfl, .inr (.inl rfl), .inr (.inr (.inl rfl)), .inr (.inr (.inr (.inl rfl))), fun k y _ h hy => .inr (.inr (.inr (.inr ⟨k, h, hy⟩))), ?_⟩, fun y hy => put_ne fun q => hy (q ▸ hx)⟩
  · rintro ⟨k, h1, h2⟩
    refine ⟨k, ?_, h1, h2⟩
    by_cases q : k < cur'
    · exact (k3 k (Nat.zero_le _) q ⟨_, _, h2⟩).elim
    · omega
  · rintro ⟨k, _, h⟩; exact ⟨k, h⟩
  · intro y hy
    by_cases q : y = x
    · rw [q, put_self]; exact fun h => nomatch h
    · rw [put_ne q]
      rcases hy with rfl | rfl | rfl | rfl | ⟨k, h1, h2⟩
      · exact (q rfl).elim
      · rw [m1]; exact fun h => nomatch h
      · rw [o1]; exact fun h => nomatch h
      · rw [s1]; exact fun h => nomatch h
      · exact B.dom (kids k h1) h2
end
noncomputable def POr (P P' : RepT) : RepT := fun σ x R fp => P σ x R fp ∨ P' σ x R fp
section
variable {P P' P1 P2 : RepT} {b b' : Nat}
theorem Kid.room (B : Kid b P) (l : b ≤ b') : Kid b' P where
  act p := by obtain ⟨f, h, r⟩ := B.act p; exact ⟨f, h, r.mono l fun _ _ q => q⟩
  id p hd := by obtain ⟨f, h, r⟩ := B.id p hd; exact ⟨f, h, r.mono l fun _ _ q => q⟩
  weight p hd := by obtain ⟨f, h, r⟩ := B.weight p hd; exact ⟨f, h, r.mono l fun _ _ q => q⟩
  next p hd := by obtain ⟨f, h, r⟩ := B.next p hd; exact ⟨f, h, r.mono l fun _ _ q => q⟩
  skip p hd := by obtain ⟨f, h, r⟩ := B.skip p hd; exact ⟨f, h, fun g t => (r g t).mono l fun _ _ q => q⟩
  bdd := B.bdd
  loc := B.loc
  dom := B.dom
  self := B.self
theorem Kid.or (B : Kid b P) (B' : Kid b P') : Kid b (POr P P') where
  act p := by
    rcases p with p | p
    · exact B.act p
    · exact B'.act p
  id p hd := by
    rcases p with p | p
    · obtain ⟨f, h, r⟩ := B.id p hd; exact ⟨f, h, r.mono (Nat.le_refl _) fun _ _ q => ⟨q.1, .inl q.2.1, q.2.2⟩⟩
    · obtain ⟨f, h, r⟩ := B'.id p hd; exact ⟨f, h, r.mono (Nat.le_refl _) fun _ _ q => ⟨q.1, .inr q.2.1, q.2.2⟩⟩
  weight p hd := by
    rcases p with p | p
    · obtain ⟨f, h, r⟩ := B.weight p hd; exact ⟨f, h, r.mono (Nat.le_refl _) fun _ _ q => ⟨q.1, .inl q.2.1, q.2.2⟩⟩
    · obtain ⟨f, h, r⟩ := B'.weight p hd; exact ⟨f, h, r.mono (Nat.le_refl _) fun _ _ q => ⟨q.1, .inr q.2.1, q.2.2⟩⟩
  next p hd := by
    rcases p with p | p
    · obtain ⟨f, h, r⟩ := B.next p hd; exact ⟨f, h, r.mono (Nat.le_refl _) fun _ _ q => ⟨q.1, .inl q.2.1, q.2.2⟩⟩
    · obtain ⟨f, h, r⟩ := B'.next p hd; exact ⟨f, h, r.mono (Nat.le_refl _) fun _ _ q => ⟨q.1, .inr q.2.1, q.2.2⟩⟩
  skip p hd := by
    rcases p with p | p
    · obtain ⟨f, h, r⟩ := B.skip p hd; exact ⟨f, h, fun g t => (r g t).mono (Nat.le_refl _) fun _ _ q => ⟨q.1, .inl q.2.1, q.2.2⟩⟩
    · obtain ⟨f, h, r⟩ := B'.skip p hd; exact ⟨f, h, fun g t => (r g t).mono (Nat.le_refl _) fun _ _ q => ⟨q.1, .inr q.2.1, q.2.2⟩⟩
  bdd p := by
    rcases p with p | p
    · exact B.bdd p
    · exact B'.bdd p
  loc p h := by
    rcases p with p | p
    · exact .inl (B.loc p h)
    · exact .inr (B'.loc p h)
  dom p := by
    rcases p with p | p
    · exact B.dom p
    · exact B'.dom p
  self p := by
    rcases p with p | p
    · exact B.self p
    · exact B'.self p
theorem Sco.room (B : Sco b P) (l : b ≤ b') : Sco b' P where
  score p hd := by obtain ⟨f, h, r⟩ := B.score p hd; exact ⟨f, h, r.mono l fun _ _ q => q⟩
theorem Sco.or (B : Sco b P) (B' : Sco b P') : Sco b (POr P P') where
  score p hd := by
    rcases p with p | p
    · obtain ⟨f, h, r⟩ := B.score p hd; exact ⟨f, h, r.mono (Nat.le_refl _) fun _ _ q => ⟨q.1, .inl q.2.1, q.2.2⟩⟩
    · obtain ⟨f, h, r⟩ := B'.score p hd; exact ⟨f, h, r.mono (Nat.le_refl _) fun _ _ q => ⟨q.1, .inr q.2.1, q.2.2⟩⟩
theorem Rq.inc {σ σ' : AH} {x : Addr} {R : Strm} {fp : Addr → Prop} {v : Value} (q : Rq P σ x R fp v σ') (inc : ∀ {σ x R fp}, P σ x R fp → P' σ x R fp) : Rq P' σ x R fp v σ' := ⟨q.1.mono inc fun _ h => h, q.2⟩
theorem Rp2.room (B : Rp2 b P P1) (l : b ≤ b') (inc : ∀ {σ x R fp}, P1 σ x R fp → P2 σ x R fp) : Rp2 b' P P2 where
  rpl p a := by obtain ⟨f, h, r, r'⟩ := B.rpl p a; exact ⟨f, h, r.mono l fun _ _ q => q.inc inc, fun t => (r' t).mono l fun _ _ q => q.inc inc⟩
theorem Rp2.or (B : Rp2 b P P1) (B' : Rp2 b P' P1) : Rp2 b (POr P P') P1 where
  rpl p a := by
    rcases p with p | p
    · exact B.rpl p a
    · exact B'.rpl p a
end
/-- the matchers by rank -/
noncomputable def Rep : Nat → RepT
  | 0 => MRep LRep
  | n + 1 => POr (Rep n) (POr (MRep (Rep n)) (POr (URep (Rep n)) (POr (IRep (Rep n)) (NRep (Rep n)))))
theorem Rep.up {n : Nat} {σ : AH} {x : Addr} {R : Strm} {fp : Addr → Prop} (h : Rep n σ x R fp) : Rep (n + 1) σ x R fp := .inl h
theorem Rep.le {n k : Nat} (l : n ≤ k) {σ : AH} {x : Addr} {R : Strm} {fp : Addr → Prop} (h : Rep n σ x R fp) : Rep k σ x R fp := by
  induction l with
  | refl => exact h
  | step _ ih => exact .inl ih
theorem Rep.m {n : Nat} {σ : AH} {x : Addr} {R : Strm} {fp : Addr → Prop} (h : MRep (Rep n) σ x R fp) : Rep (n + 1) σ x R fp := .inr (.inl h)
theorem Rep.u {n : Nat} {σ : AH} {x : Addr} {R : Strm} {fp : Addr → Prop} (h : URep (Rep n) σ x R fp) : Rep (n + 1) σ x R fp := .inr (.inr (.inl h))
theorem Rep.i {n : Nat} {σ : AH} {x : Addr} {R : Strm} {fp : Addr → Prop} (h : IRep (Rep n) σ x R fp) : Rep (n + 1) σ x R fp := .inr (.inr (.inr (.inl h)))
theorem Rep.n {n : Nat} {σ : AH} {x : Addr} {R : Strm} {fp : Addr → Prop} (h : NRep (Rep n) σ x R fp) : Rep (n + 1) σ x R fp := .inr (.inr (.inr (.inr h)))
theorem kidR : ∀ n : Nat, Kid (6 * n + 6) (Rep n)
  | 0 => (kid_multi kid_list).room (by omega)
  | n + 1 => by
    have B := kidR n
    exact (B.room (by omega)).or (((kid_multi B).room (by omega)).or (((kid_union B).room (by omega)).or (((kid_inter B).room (by omega)).or ((kid_not B).room (by omega)))))
theorem scoR : ∀ n : Nat, Sco (6 * n + 6) (Rep n)
  | 0 => (sco_multi kid_list).room (by omega)
  | n + 1 => by
    have B := kidR n
    have Z := scoR n
    exact (Z.room (by omega)).or (((sco_multi B).room (by omega)).or (((sco_union B Z).room (by omega)).or (((sco_inter B Z).room (by omega)).or ((sco_not B Z).room (by omega)))))
theorem rp2R : ∀ n : Nat, Rp2 (6 * n + 6) (Rep n) (Rep n)
  | 0 => (rp2_multi kid_list).room (by omega) fun h => h
  | n + 1 => by
    have B := kidR n
    have Z := rp2R n
    exact (Z.room (by omega) Rep.up).or (((rp2_multi B).room (by omega) Rep.m).or (((rp2_union B B Z (by omega) Rep.up Rep.u).room (by omega) fun h => h).or
      (((rp2_inter B B Z Rep.up Rep.i).room (by omega) fun h => h).or ((rp2_not B B Z Rep.up Rep.n).room (by omega) fun h => h))))
section
variable {α β : Type} {c : Cx} {m : Lc} {σ : AH} {env : Env}
theorem ST.viaNews {s : Shared} (S : ST c m σ s) {h' : Heap} {t : Nat} {o : Obj} {n : Node} (F : Fr c.h₀ c.L h' m) (N : News c.h₀ c.L h' ((s.heap.objs.size, o) :: others c.h₀ c.L s.heap.objs.size s.heap)) (hn : NodeAt h' s.heap.objs.size n)
    (ho : ∀ a, owns n s.heap.objs.size a → a = s.heap.objs.size) : σ s.heap.objs.size = none ∧ ST c m (put σ s.heap.objs.size n) { s with heap := h', toks := t } := by
  have keep : ∀ y n a, σ y = some n → owns n y a → ∀ o, s.heap.get? a = some o → h'.get? a = some o := fun y n a e' w o z => by
    have w' := S.out _ _ _ e' w
    exact (N _ (.tail _ (mem_others.mpr ⟨w'.1, Nat.ne_of_lt (S.fresh e' w), w'.2, z⟩))).1
  have S1 : ST c m σ { s with heap := h', toks := t } :=
    ⟨S.k, S.t, F, fun y n e' => (S.nodes y n e').keep fun a o w z => keep y n a e' w o z, S.out, S.sep, S.gens, S.os⟩
  refine ⟨S.gone (Nat.le_refl _), S1.add hn fun a w => ?_⟩
  rw [ho a w]
  exact ⟨Nat.ne_of_gt S.ltL, S.gone0 (Nat.le_refl _), fun y n e w => Nat.lt_irrefl _ (S.fresh e w)⟩
-- numbers
theorem x_mod {a b : Int} {t u : Tok} {Q : Value → Lc → AH → Prop} (hb : b ≠ 0) (h : ∀ k, Q (.int (a.fmod b) k) m σ) : XV c m σ (binaryOp .Mod (.int a t) (.int b u)) Q := .mk fun _ S => mod_int hb ⟨m, σ, S.tok _, h _⟩
theorem x_floordiv {a b : Int} {t u : Tok} {Q : Value → Lc → AH → Prop} (hb : b ≠ 0) (hs : b.natAbs < 1073741824) (h : ∀ k, Q (.int (a.fdiv b) k) m σ) : XV c m σ (binaryOp .FloorDiv (.int a t) (.int b u)) Q := .mk fun _ S =>
  floordiv_int hb ⟨m, σ, S.tok _, h _⟩ (Or.inl (PyProof.noPylong_small hs))
-- append
theorem x_m_append {l : Addr} {vs : List Value} {pl : Sem Bool} {Q : Value × List Value → Lc → AH → Prop} (e : σ l = some (.list vs)) (h : Q (.builtin "list.append", [.ref l]) m σ) : XV c m σ (getMethod (.ref l) "append" pl) Q := .mk fun s S => by
  obtain ⟨n, g⟩ := S.nodes l _ e
  exact getMethod_list_append g rfl rfl ⟨m, σ, S, h⟩
theorem x_cwf {id : String} {first : List Value} {e : Expr} {args : List Expr} {pos : Pos} {Q : Value → Lc → AH → Prop}
    (h : XV c m σ (spliced (backTo pos (starEach (e :: args) env))) fun vs m' σ' => XV c m' σ' (call (.builtin id) (first ++ vs) []) Q)
    (he : starEach (e :: args) env = (false, eval e env) :: starEach args env := by rfl)
    (hplain : (backTo pos (starEach args env)).any (·.1) = false := by rfl) :
    XV c m σ (callWith pos (.builtin id) first (backTo pos (starEach (e :: args) env)) (backToKw pos (keywordEach [] env))) Q := .mk fun s S => by
  have h' := h.run s S
  rw [he] at h' ⊢
  exact Calls.callWith_builtin (by show (false || (backTo pos (starEach args env)).any (·.1)) = false; rw [hplain]; rfl) (Calls.evalArgs_plain (wpAny_mono h' (fun _ s1 ⟨_, _, S1, q1⟩ => q1.run s1 S1) fun _ _ e => e))
theorem x_append {l : Addr} {vs : List Value} {v : Value} {Q : Value → Lc → AH → Prop} (e : σ l = some (.list vs)) (hz : vs.length ≤ sizeLine) (h : Q .none m (put σ l (.list (vs ++ [v])))) : XV c m σ (call (.builtin "list.append") [.ref l, v] []) Q := .mk fun s S => by
  obtain ⟨n, g⟩ := S.nodes l _ e
  refine PyProof.Rows.append_at (hsz := by rw [List.size_toArray]; exact hz) g fun h' hs hg => ?_
  refine ⟨m, _, S.turn (t := s.toks) (n' := .list (vs ++ [v])) e ⟨n + 1, ?_⟩ (fun a w => w) (fun a o w q => (hs.2 a (fun z => w z)).trans q), h⟩
  rw [hg]; simp
-- list + list
theorem x_add_list {l b : Addr} {vs ws : List Value} {Q : Value → Lc → AH → Prop} (e : σ l = some (.list vs)) (e2 : σ b = some (.list ws)) (hz : vs.length + ws.length ≤ sizeLine) (h : ∀ x, σ x = none → Q (.ref x) m (put σ x (.list (vs ++ ws)))) : XV c m σ (binaryOp .Add (.ref l) (.ref b)) Q := .mk fun s S => by
  refine add_lists (hsz := hz) S.f (others_news (d := s.heap.objs.size)) (S.list e) (S.list e2) fun h' F N => ?_
  obtain ⟨h1, h2⟩ := S.viaNews (t := s.toks) F N (n := .list (vs ++ ws)) ⟨0, (N _ (.head _)).1⟩ (fun a w => w)
  exact ⟨m, _, h2, h _ h1⟩
end
/-- what a loop draws from: a list's items, or whole numbers from a on -/
inductive Src where
  | list (l : Addr) (vs : List Value)
  | range (a : Int) (n : Nat)
noncomputable def Src.n : Src → Nat
  | .list _ vs => vs.length
  | .range _ n => n
noncomputable def Src.val : Src → Nat → Value → Prop
  | .list _ vs, k, v => vs[k]? = some v
  | .range a _, k, v => ∃ t, v = .int (a + k) t
noncomputable def Src.base : Src → AH → Prop
  | .list l vs, σ => σ l = some (.list vs)
  | .range _ _, _ => True
noncomputable def Src.ItO : Src → Nat → Obj → Prop
  | .list l _, k, o => o.cls = .type "list_iterator" ∧ o.data = .fields #[.ref l, .int k 0]
  | .range a n, k, o => o = { cls := .type "range_iterator", dict := none, data := .fields #[rawInt (a + k), rawInt (n - k), rawInt 1], slots := #[] }
noncomputable def Src.Of (S : Src) (v : Value) (σ : AH) : Prop := match S with
  | .list l vs => v = .ref l ∧ σ l = some (.list vs)
  | .range a n => ∃ r b t u w, v = .ref r ∧ b = a + n ∧ σ r = some (.obj { cls := .type "range", dict := none, data := .fields #[.int a t, .int b u, .int 1 w], slots := #[] }) ∧ -(2 ^ 62) ≤ a ∧ b < 2 ^ 62
noncomputable def del (σ : AH) (x : Addr) : AH := fun y => if y = x then none else σ y
theorem del_ne {σ : AH} {x y : Addr} (h : y ≠ x) : del σ x y = σ y := if_neg h
theorem del_self (σ : AH) (x : Addr) : del σ x x = none := if_pos rfl
section
variable {α β : Type} {c : Cx} {m : Lc} {σ : AH} {env : Env}
theorem ST.sub {s : Shared} {σ' : AH} (S : ST c m σ s) (h : ∀ x n, σ' x = some n → σ x = some n) : ST c m σ' s :=
  ⟨S.k, S.t, S.f, fun x n e => S.nodes x n (h x n e), fun x n a e w => S.out x n a (h x n e) w, fun x y n n' a e e' w w' => S.sep x y n n' a (h x n e) (h y n' e') w w', S.gens, S.os⟩
/-- an iterator thrown away -/
theorem ST.lose {s : Shared} {h' : Heap} {t : Nat} {it : Addr} {o : Obj} (S : ST c m σ s) (e : σ it = some (.obj o)) (hk : ∀ a o, a ≠ it → s.heap.get? a = some o → h'.get? a = some o) : ST c m (del σ it) { s with heap := h', toks := t } := by
  have g := S.nodes it _ e
  refine ⟨S.k, S.t, ?_, fun y n e' => ?_, fun y n a e' w => ?_, fun x y n n' a e1 e2 w w' => ?_, S.gens, S.os⟩
  · obtain ⟨o, es, ep, h, r⟩ := S.f.ns
    exact ⟨⟨o, es, ep, hk _ _ (fun z => (S.out it _ it e (owns_self _ _)).1 z.symm) h, r⟩, fun a o q => hk _ _ (fun z => by rw [z, (S.out it _ it e (owns_self _ _)).2] at q; cases q) (S.f.keep a o q), S.f.above⟩
  · unfold del at e'
    split at e'
    · cases e'
    · rename_i q
      exact (S.nodes y n e').keep fun a o w z => hk a o (fun w' => q (S.sep _ _ _ _ a e' e w (by rw [w']; exact owns_self _ _))) z
  · unfold del at e'
    split at e'
    · cases e'
    · exact S.out y n a e' w
  · unfold del at e1 e2
    split at e1
    · cases e1
    · split at e2
      · cases e2
      · exact S.sep x y n n' a e1 e2 w w'
theorem ST.newO {s : Shared} (S : ST c m σ s) (o : Obj) (t : Nat) (hf : o.isFreed = false) : σ s.heap.objs.size = none ∧ ST c m (put σ s.heap.objs.size (.obj o)) { s with heap := s.heap.push o, toks := t } :=
  ⟨S.gone (Nat.le_refl _), S.newObj o (Heap.get?_push_size _ hf) (fun _ _ q => Heap.get?_push_of_some _ q) t⟩
/-- range(n) -/
theorem x_range1 {n : Int} {t : Tok} {Q : Value → Lc → AH → Prop} (h : ∀ r t u w, σ r = none → Q (.ref r) m (put σ r (.obj { cls := .type "range", dict := none, data := .fields #[.int 0 t, .int n u, .int 1 w], slots := #[] }))) :
    XV c m σ (call (.type "range") [.int n t] []) Q := .mk fun s S => by
  have z := S.newO { cls := .type "range", data := .fields #[.int 0 s.toks, .int n t, .int 1 (s.toks + 1)] } (s.toks + 1 + 1) rfl
  exact call_range_1 ⟨m, _, z.2, h _ _ _ _ z.1⟩
theorem x_range2 {a b : Int} {t u : Tok} {Q : Value → Lc → AH → Prop} (h : ∀ r t u w, σ r = none → Q (.ref r) m (put σ r (.obj { cls := .type "range", dict := none, data := .fields #[.int a t, .int b u, .int 1 w], slots := #[] }))) :
    XV c m σ (call (.type "range") [.int a t, .int b u] []) Q := .mk fun s S => by
  have z := S.newO { cls := .type "range", data := .fields #[.int a t, .int b u, .int 1 s.toks] } (s.toks + 1) rfl
  exact call_range_2 ⟨m, _, z.2, h _ _ _ _ z.1⟩
/-- iter -/
theorem x_iter {S : Src} {v : Value} {Q : Value → Lc → AH → Prop} (hs : S.Of v σ) (h : ∀ it o, σ it = none → S.ItO 0 o → Q (.ref it) m (put σ it (.obj o))) : XV c m σ (pyIter v) Q := .mk fun s X => by
  cases S with
  | list l vs =>
    obtain ⟨rfl, e⟩ := hs
    have z := X.newO { cls := .type "list_iterator", data := .fields #[.ref l, .int 0 0] } s.toks rfl
    exact wpAny_pyIter_list (X.list e) ⟨m, _, z.2, h _ _ z.1 ⟨rfl, rfl⟩⟩
  | range a n =>
    obtain ⟨r, b, t, u, w, rfl, hb, e, h1, h2⟩ := hs
    have g := X.nodes r _ e
    have sz : Builtin.Range.rangeSize a b 1 = n := by rw [rangeSize_one]; split <;> omega
    have z := X.newO { cls := .type "range_iterator", data := .fields #[rawInt a, rawInt (Builtin.Range.rangeSize a b 1), rawInt 1] } s.toks rfl
    refine wpAny_pyIter_range g (small_one h1 (by omega) (by omega) h2) ⟨m, _, z.2, h _ _ z.1 ?_⟩
    show _ = _
    rw [sz]; simp
theorem x_iter_self {S : Src} {it : Addr} {k : Nat} {o : Obj} {Q : Value → Lc → AH → Prop} (e : σ it = some (.obj o)) (ho : S.ItO k o) (h : Q (.ref it) m σ) : XV c m σ (pyIter (.ref it)) Q := .mk fun s X => by
  have g := X.nodes it _ e
  cases S with
  | list l vs => exact wpAny_pyIter_listiter (l := l) (i := k) ⟨o, g, ho.1, ho.2⟩ ⟨m, σ, X, h⟩
  | range a n =>
    rw [show o = _ from ho] at g
    exact wpAny_pyIter_rangeiter g ⟨m, σ, X, h⟩
/-- next -/
theorem x_next {S : Src} {it : Addr} {k : Nat} {o : Obj} {Q : Option Value → Lc → AH → Prop} (e : σ it = some (.obj o)) (ho : S.ItO k o) (hb : S.base σ) (hk : k < S.n)
    (h : ∀ v o', S.val k v → S.ItO (k + 1) o' → Q (some v) m (put σ it (.obj o'))) : XV c m σ (pyNext (.ref it)) Q := .mk fun s X => by
  have g := X.nodes it _ e
  cases S with
  | list l vs =>
    have hk : k < vs.length := hk
    refine wpAny_pyNext_list_item (l := l) (i := k) ⟨o, g, ho.1, ho.2⟩ (X.list hb) (x := vs[k]) (by simp [hk]) fun h' hit hs => ?_
    obtain ⟨o', g', c', d'⟩ := hit
    exact ⟨m, _, X.turn (t := s.toks) (n' := .obj o') e g' (fun a w => w) (fun a o w q => (hs.2 a w).trans q), h _ o' (by show vs[k]? = _; simp [hk]) ⟨c', d'⟩⟩
  | range a n =>
    rw [show o = _ from ho] at g
    have hk : k < n := hk
    refine wpAny_pyNext_range_item g (by omega) fun h' hit hs => ?_
    exact ⟨m, _, X.turn (t := s.toks + 1) (n' := .obj _) e hit (fun a w => w) (fun a o w q => (hs.2 a w).trans q), h _ _ ⟨_, rfl⟩ (by
      show (_ : Obj) = _
      rw [show a + (k : Int) + 1 = a + ((k + 1 : Nat) : Int) by omega, show (n : Int) - k - 1 = n - ((k + 1 : Nat) : Int) by omega])⟩
theorem x_next_end {S : Src} {it : Addr} {o : Obj} {Q : Option Value → Lc → AH → Prop} (e : σ it = some (.obj o)) (ho : S.ItO S.n o) (hb : S.base σ) (hh : c.A.handled = none) (h : Q none m (del σ it)) : XV c m σ (pyNext (.ref it)) Q := .mk fun s X => by
  have g := X.nodes it _ e
  cases S with
  | list l vs => exact wpAny_pyNext_list_end hh (l := l) (i := vs.length) ⟨o, g, ho.1, ho.2⟩ (X.list hb) (by simp) fun h' hs => ⟨m, _, X.lose (t := s.toks) e hs, h⟩
  | range a n =>
    rw [show o = _ from ho] at g
    exact wpAny_pyNext_range_end hh g (by simp [Src.n]) fun h' hs => ⟨m, _, X.lose (t := s.toks) e hs, h⟩
end
structure XFor (c : Cx) (m : Lc) (σ : AH) (v : Value) (target : Expr) (body orelse : List Stmt) (env : Env) (Q : Flow → Lc → AH → Prop) : Prop where
  run : ∀ s, ST c m σ s → wpAny c.M c.A (pyIter v) (fun it s2 => codeAny c.M c.A (.forLoop target it body orelse env) (fun r s' => match r with | .ok f => ∃ m' σ', ST c m' σ' s' ∧ Q f m' σ' | .error _ => False) s2) (fun _ _ => False) s
section
variable {α β : Type} {c : Cx} {m : Lc} {σ : AH} {env : Env}
theorem Src.base_put {S : Src} {it : Addr} {n : Node} (hb : S.base σ) (h : ∀ l vs, S = .list l vs → l ≠ it) : S.base (put σ it n) := by
  cases S with
  | list l vs => show put σ it n l = _; rw [put_ne (h l vs rfl)]; exact hb
  | range a n => trivial
theorem Src.base_ne {S : Src} {it : Addr} (hb : S.base σ) (h : σ it = none ∨ ∃ o, σ it = some (.obj o)) : ∀ l vs, S = .list l vs → l ≠ it := by
  rintro l vs rfl rfl
  have hb : σ l = some (.list vs) := hb
  rcases h with h | ⟨o, h⟩
  · rw [h] at hb; cases hb
  · rw [h] at hb; cases hb
theorem x_for {target iter : Expr} {body orelse : List Stmt} {pos : Pos} {Q : Flow → Lc → AH → Prop} (h : XV c m σ (eval iter env) fun v m1 σ1 => XFor c m1 σ1 v target body orelse env Q)
    (hs : ∀ x, foldedSetIterable iter env x = pure x := by intro _; rfl) : XV c m σ (exec (.For target iter body orelse pos) env) Q := .mk fun s S =>
  wpAny_For (wpAny_mono (h.run s S) (fun v s1 ⟨m1, σ1, S1, q⟩ => wpAny_mono (q.run s1 S1) (fun it s2 q2 => codeAny_mono q2 fun r s' z => by
    cases r with
    | ok f => exact z
    | error e => exact z.elim) fun _ _ e => e.elim) fun _ _ e => e) hs
theorem xf_loop {S : Src} {v : Value} {target : Expr} {body orelse : List Stmt} {Q : Flow → Lc → AH → Prop} (I : Nat → Lc → AH → Prop) (hs : S.Of v σ) (hh : c.A.handled = none) (h0 : I 0 m σ)
    (ins : ∀ it k m' σ' σ'', σ it = none → I k m' σ' → (σ' it = none ∨ ∃ o, σ' it = some (.obj o)) → (∀ y, y ≠ it → σ'' y = σ' y) → I k m' σ'')
    (turn : ∀ it k m' σ' v o, σ it = none → I k m' σ' → σ' it = some (.obj o) → S.base σ' → k < S.n → S.val k v →
      ∀ Q0 : Flow → Lc → AH → Prop, (∀ m3 σ3, I (k + 1) m3 σ3 → σ3 it = some (.obj o) → S.base σ3 → Q0 .next m3 σ3) → (∀ v m3 σ3, Q (.ret v) m3 σ3 → Q0 (.ret v) m3 σ3) →
      XV c m' σ' (assign target env v) fun _ m2 σ2 => XV c m2 σ2 (execs body env) Q0)
    (fin : ∀ m' σ', I S.n m' σ' → XV c m' σ' (execs orelse env) Q)
    (ht : ∀ it v, letOwnedTupleGo target it v = pure () := by intro _ _; rfl) : XFor c m σ v target body orelse env Q := .mk fun s X => by
  have hb : S.base σ := by
    cases S with
    | list l vs => exact hs.2
    | range a n => trivial
  refine wpAny_mono ((x_iter (c := c) (m := m) (Q := fun w m' σ' => ∃ it o, w = .ref it ∧ σ it = none ∧ S.ItO 0 o ∧ m' = m ∧ σ' = put σ it (.obj o)) hs (fun it o h1 h2 => ⟨it, o, rfl, h1, h2, rfl, rfl⟩)).run s X) (fun w s2 ⟨m2, σ2, X2, it, o, hw, h1, h2, h3, h4⟩ => ?_) fun _ _ e => e
  subst hw h3 h4
  refine codeAny_forLoop (fun n s => ∃ k m' σ' o, n = S.n - k ∧ k ≤ S.n ∧ ST c m' σ' s ∧ I k m' σ' ∧ σ' it = some (.obj o) ∧ S.ItO k o ∧ S.base σ') (fun n s hI => ?_) (S.n - 0)
    ⟨0, m2, _, o, rfl, Nat.zero_le _, X2, ins it 0 m2 σ _ h1 h0 (.inl h1) fun y hy => put_ne hy, put_self _ _ _, h2, Src.base_put hb (Src.base_ne hb (.inl h1))⟩ (ht (.ref it))
  obtain ⟨k, m', σ', o, rfl, hk, Xs, hI, e, ho, hb'⟩ := hI
  have stab : ∀ n, (∀ l vs, S = .list l vs → l ≠ it) → S.base (put σ' it n) := fun n h => Src.base_put hb' h
  by_cases q : k < S.n
  · refine wpAny_mono ((x_next (Q := fun r m2 σ2 => ∃ v o', r = some v ∧ S.val k v ∧ S.ItO (k + 1) o' ∧ m2 = m' ∧ σ2 = put σ' it (.obj o')) e ho hb' q (fun v o' h1 h2 => ⟨v, o', rfl, h1, h2, rfl, rfl⟩)).run s Xs)
      (fun r s1 ⟨m2, σ2, X2, v, o', hr, hv, ho', hm, hσ⟩ => ?_) fun _ _ e => e.elim
    subst hr hm hσ
    have I2 := ins it k m2 σ' (put σ' it (.obj o')) h1 hI (.inr ⟨o, e⟩) fun y hy => put_ne hy
    refine wpAny_mono ((turn it k m2 _ v o' h1 I2 (put_self _ _ _) (stab _ (Src.base_ne hb' (.inr ⟨o, e⟩))) q hv (fun f m3 σ3 => match f with
        | .next | .cont => I (k + 1) m3 σ3 ∧ σ3 it = some (.obj o') ∧ S.base σ3
        | .brk => False
        | .ret v => Q (.ret v) m3 σ3) (fun _ _ a b c => ⟨a, b, c⟩) (fun _ _ _ a => a)).run s1 X2) (fun _ s2 ⟨m3, σ3, X3, z⟩ => ?_) fun _ _ e => e.elim
    refine wpAny_mono (z.run s2 X3) (fun f s3 ⟨m4, σ4, X4, z⟩ => ?_) fun _ _ e => e.elim
    cases f with
    | next => exact ⟨S.n - (k + 1), by omega, k + 1, m4, σ4, o', rfl, q, X4, z.1, z.2.1, ho', z.2.2⟩
    | cont => exact ⟨S.n - (k + 1), by omega, k + 1, m4, σ4, o', rfl, q, X4, z.1, z.2.1, ho', z.2.2⟩
    | brk => exact z.elim
    | ret v => exact ⟨m4, σ4, X4, z⟩
  · obtain rfl : k = S.n := by omega
    refine wpAny_mono ((x_next_end (Q := fun r m2 σ2 => r = none ∧ m2 = m' ∧ σ2 = del σ' it) e ho hb' hh ⟨rfl, rfl, rfl⟩).run s Xs) (fun r s1 ⟨m2, σ2, X2, hr, hm, hσ⟩ => ?_) fun _ _ e => e.elim
    subst hr hm hσ
    exact wpAny_mono ((fin m2 _ (ins it _ m2 σ' _ h1 hI (.inr ⟨o, e⟩) fun y hy => del_ne hy)).run s1 X2) (fun f s2 z => z) fun _ _ e => e.elim
theorem x_assign_name {x : PySem.Str} {pos : Pos} {v : Value} {Q : Unit → Lc → AH → Prop} (h : XV c m σ (storeName env x v) Q) : XV c m σ (assign (.Name x pos) env v) Q := .mk fun s S => wpAny_assign_Name (h.run s S)
end
noncomputable def Ext (σ σ' : AH) : Prop := ∀ y, σ y ≠ none → σ' y = σ y
theorem Ext.refl (σ : AH) : Ext σ σ := fun _ _ => rfl
theorem Ext.trans {σ σ' σ'' : AH} (h : Ext σ σ') (h' : Ext σ' σ'') : Ext σ σ'' := fun y q => (h' y (by rw [h y q]; exact q)).trans (h y q)
theorem Ext.none {σ σ' : AH} {x : Addr} (h : Ext σ σ') (e : σ' x = none) : σ x = none := by
  rcases q : σ x with _ | n
  · rfl
  · rw [h x (by rw [q]; exact fun z => nomatch z), q] at e; cases e
theorem Ext.put {σ σ' : AH} {x : Addr} {n : Node} (h : Ext σ σ') (e : σ x = Option.none) : Ext σ (Mine.put σ' x n) := fun y q => (put_ne fun z => q (by rw [z]; exact e)).trans (h y q)
theorem Ext.ins {σ σ' σ'' : AH} {it : Addr} (h : Ext σ σ') (e : σ it = Option.none) (k : ∀ y, y ≠ it → σ'' y = σ' y) : Ext σ σ'' := fun y q => (k y fun z => q (by rw [z]; exact e)).trans (h y q)
theorem Ext.some {σ σ' : AH} {x : Addr} {n : Node} (h : Ext σ σ') (e : σ x = some n) : σ' x = some n := (h x (by rw [e]; exact fun z => nomatch z)).trans e
theorem ins_list {σ σ' : AH} {it l : Addr} {vs : List Value} (e : σ l = some (.list vs)) (h : σ it = none ∨ ∃ o, σ it = some (.obj o)) (k : ∀ y, y ≠ it → σ' y = σ y) : σ' l = some (.list vs) :=
  (k l fun z => by subst z; rcases h with h | ⟨o, h⟩ <;> rw [h] at e <;> cases e).trans e
theorem Ints.nil : Ints [] [] := ⟨rfl, fun k n h => by simp at h⟩
theorem Ints.snoc {vs : List Value} {ns : List Int} (h : Ints vs ns) (n : Int) (t : Tok) : Ints (vs ++ [.int n t]) (ns ++ [n]) := by
  refine ⟨by simp [h.1], fun k x e => ?_⟩
  by_cases q : k < ns.length
  · rw [List.getElem?_append_left q] at e
    obtain ⟨t', h'⟩ := h.2 k x e
    exact ⟨t', by rw [List.getElem?_append_left (by rw [h.1]; exact q)]; exact h'⟩
  · rw [List.getElem?_append_right (by omega)] at e
    have : k - ns.length = 0 := by
      have := (List.getElem?_eq_some_iff.mp e).1
      simp at this; omega
    rw [this] at e
    cases e
    exact ⟨t, by rw [List.getElem?_append_right (by rw [h.1]; omega), h.1, this]; rfl⟩
/-- the words of a number -/
noncomputable def textGo : Nat → Int → List Int
  | 0, _ => []
  | k + 1, n => if n.fmod 4 = 3 then [] else n.fmod 4 :: textGo k (n.fdiv 4)
noncomputable def textOf (n : Int) : List Int := textGo 5 n
theorem textGo_len : ∀ (k : Nat) (n : Int), (textGo k n).length ≤ k
  | 0, _ => Nat.le_refl _
  | k + 1, n => by
    unfold textGo
    split
    · exact Nat.zero_le _
    · exact Nat.succ_le_succ (textGo_len k _)
section
variable {σ : AH} {bb : Nat}
/-- a fresh list of whole numbers -/
inductive NewInts (σ : AH) (ns : List Int) (v : Value) (σ' : AH) : Prop
  | mk (l : Addr) (vs : List Value) (h1 : v = .ref l) (h2 : σ l = none) (h3 : σ' l = some (.list vs)) (h4 : Ints vs ns) (h5 : Ext σ σ') : NewInts σ ns v σ'
theorem r1179 (n : Int) (t : Tok) : Runs (bb + 1) σ 1179 [.int n t] [] (NewInts σ (textOf n)) := by
  refine runs (binds := [(S "number", .int n t)]) f1179 c1179 (fun P s X => .of_eq (by rfl)) (by rfl) (by rfl) (by exact ⟨rfl, rfl, rfl⟩) fun c r => ?_
  repeat walk_at "g"
  refine x_list ?_
  repeat walk_at "g"
  refine x_newlist (by decide) fun l hl => ?_
  repeat walk_at "g"
  refine x_for ?_
  repeat walk_at "g"
  refine x_builtin b_range.1 b_range.2 (by decide) ?_
  refine x_cwt ?_
  repeat walk_at "g"
  intro t5
  repeat walk_at "g"
  refine x_range1 fun ra t6 u6 w6 hr => ?_
  have E0 : Ext σ (Mine.put (Mine.put σ l (.list [])) ra (.obj { cls := .type "range", dict := none, data := .fields #[.int 0 t6, .int 5 u6, .int 1 w6], slots := #[] })) := by
    have e1 : Ext σ (Mine.put σ l (.list [])) := (Ext.refl _).put hl
    exact e1.put (e1.none hr)
  refine xf_loop (S := .range 0 5) (fun k m' σ' => m' "words" = some (.ref l) ∧ Ext σ σ' ∧ ∃ (q : Int) (tq : Tok) (vs : List Value) (acc : List Int), m' "number" = some (.int q tq) ∧ σ' l = some (.list vs) ∧ Ints vs acc ∧ acc.length ≤ k ∧ acc ++ textGo (5 - k) q = textOf n)
    ⟨ra, 5, t6, u6, w6, rfl, rfl, put_self _ _ _, by decide, by decide⟩ r.2.2 ⟨rfl, E0, n, t, [], [], rfl, ?_, Ints.nil, Nat.le_refl _, rfl⟩ ?_ ?_ ?_
  · have : l ≠ ra := fun z => by rw [← z, put_self] at hr; cases hr
    rw [put_ne this, put_self]
  · rintro it k m' σ' σ'' h1 ⟨m1, E1, q, tq, vs, acc, m2, e1, i1, l1, g1⟩ h2 h3
    exact ⟨m1, E1.ins (E0.none h1) h3, q, tq, vs, acc, m2, ins_list e1 h2 h3, i1, l1, g1⟩
  · rintro it k m' σ' v o h1 ⟨m1, E1, q, tq, vs, acc, m2, e1, i1, l1, g1⟩ h2 _ hk ⟨tv, rfl⟩ Q0 hN hRt
    have hk : k < 5 := hk
    refine x_assign_name ?_
    repeat walk_at "g"
    intro t7
    refine x_mod (by decide) fun t8 => ?_
    repeat walk_at "g"
    intro t9
    refine x_floordiv (by decide) (by decide) fun t10 => ?_
    repeat walk_at "g"
    intro t11
    repeat walk_at "g"
    rw [show 5 - k = (4 - k) + 1 by omega] at g1
    unfold textGo at g1
    by_cases q3 : q.fmod 4 = 3
    · rw [if_pos q3, List.append_nil] at g1
      subst g1
      refine ite_yes (beq_iff_eq.mpr q3) ?_
      repeat walk_at "g"
      exact hRt _ _ _ ⟨l, vs, rfl, hl, e1, i1, E1⟩
    · rw [if_neg q3] at g1
      refine ite_no (by rw [beq_eq_false_iff_ne.mpr q3]; decide) ?_
      repeat walk_at "g"
      refine x_m_append e1 ?_
      refine x_cwf ?_
      repeat walk_at "g"
      refine x_append e1 (by rw [i1.1]; exact Nat.le_trans l1 (Nat.le_trans (Nat.le_of_lt hk) (by decide))) ?_
      refine ⟨fun a => (nomatch ·), ?_⟩
      repeat walk_at "g"
      have hil : it ≠ l := fun z => by rw [z, e1] at h2; cases h2
      refine hN _ _ ⟨m1, E1.put hl, _, _, _, _, rfl, put_self _ _ _, i1.snoc _ _, by simp; omega, ?_⟩ (by rw [put_ne hil]; exact h2) trivial
      rw [← g1, List.append_assoc, show 5 - (k + 1) = 4 - k by omega]; rfl
  · rintro m' σ' ⟨m1, E1, q, tq, vs, acc, m2, e1, i1, l1, g1⟩
    repeat walk_at "g"
    refine ⟨l, vs, rfl, hl, e1, ?_, E1⟩
    rw [← g1, show 5 - Src.n (.range 0 5) = 0 from rfl]
    unfold textGo
    rw [List.append_nil]
    exact i1
end
section
variable {α β : Type} {c : Cx} {m : Lc} {σ : AH} {env : Env}
theorem ST.tup {s : Shared} (S : ST c m σ s) {x : Addr} {vs : List Value} (e : σ x = some (.tup vs)) : IsTup s.heap x vs.toArray := by
  obtain ⟨n, g⟩ := S.nodes x _ e
  exact ⟨_, g, rfl, n, rfl⟩
theorem x_tuple {elts : List Expr} {k : Nat} {pos : Pos} {Q : Value → Lc → AH → Prop} (h : XV c m σ (spliced (backTo pos (starEach elts env))) fun vs m1 σ1 => XV c m1 σ1 (newTuple vs) Q) : XV c m σ (eval (.Tuple elts k pos) env) Q :=
  .mk fun s S => Tuple_ (wpAny_mono (h.run s S) (fun _ s1 ⟨_, _, S1, q1⟩ => q1.run s1 S1) fun _ _ e => e)
theorem x_newtuple {vs : List Value} {Q : Value → Lc → AH → Prop} (hz : vs.length ≤ sizeLine) (h : ∀ x, σ x = none → Q (.ref x) m (put σ x (.tup vs))) : XV c m σ (newTuple vs) Q := .mk fun s S => by
  refine newTuple_N (hsz := hz) S.f (others_news (d := s.heap.objs.size)) fun h' F N => ?_
  obtain ⟨h1, h2⟩ := S.viaNews (t := s.toks) F N (n := .tup vs) ⟨0, (N _ (.head _)).1⟩ (fun a w => w)
  exact ⟨m, _, h2, h _ h1⟩
theorem x_tup_item {value slice : Expr} {l : Addr} {vs : List Value} {k : Int} {t : Tok} {v : Value} {Q : Value → Lc → AH → Prop} (e : σ l = some (.tup vs)) (h0 : 0 ≤ k) (hk : k < 2 ^ 62) (hx : vs[k.toNat]? = some v) (h : Q v m σ)
    (hs : subscripted slice false (.ref l) (.int k t) = operate [.ref l, .int k t] (getItem (.ref l) (.int k t)) := by with_unfolding_all rfl) :
    XV c m σ (subscriptTail value slice (.ref l) (.int k t)) Q := .mk fun s S => by
  have hlen := (List.getElem?_eq_some_iff.mp hx).1
  refine item_tupleT (S.tup e) (by omega) (by omega) (j := k.toNat) ?_ hx ⟨m, σ, S, h⟩ hs
  simp [seqIndex?, show ¬ k < 0 by omega, h0]
  omega
end
noncomputable abbrev Part := Int × Int × Int
noncomputable def partOf (n : Int) : Part := (n.fmod 8, 1 + (n.fdiv 8).fmod 3, (n.fdiv 24).fmod 3)
inductive PartAt (σ : AH) (x : Addr) (p : Part) : Prop
  | mk (t1 : Tok) (t2 : Tok) (t3 : Tok) (h1 : σ x = some (.tup [.int p.1 t1, .int p.2.1 t2, .int p.2.2 t3])) : PartAt σ x p
noncomputable def fitsP (p : Part) (w : Int) : Bool := if p.1 < 3 then w == p.1 else if p.1 = 3 then true else w != (if p.1 = 7 then p.2.2 else p.1 - 4)
noncomputable def wgt (text : List Int) (place : Nat) : Int := 1 + (text.getD place 0 + place).fmod 3
section
variable {σ : AH} {bb : Nat}
theorem r1186 (n : Int) (t : Tok) : Runs (bb + 1) σ 1186 [.int n t] [] (fun v σ' => ∃ x, v = .ref x ∧ σ x = none ∧ PartAt σ' x (partOf n) ∧ Ext σ σ') := by
  refine runs (binds := [(S "number", .int n t)]) f1186 c1186 (fun P s X => .of_eq (by rfl)) (by rfl) (by rfl) (by exact ⟨rfl, rfl, rfl⟩) fun c r => ?_
  repeat walk_at "g"
  refine x_tuple ?_
  repeat walk_at "g"
  intro t1
  refine x_mod (by decide) fun t2 => ?_
  repeat walk_at "g"
  intro t3
  repeat walk_at "g"
  intro t4
  refine x_floordiv (by decide) (by decide) fun t5 => ?_
  repeat walk_at "g"
  intro t6
  refine x_mod (by decide) fun t7 => ?_
  repeat walk_at "g"
  intro t8
  repeat walk_at "g"
  intro t9
  refine x_floordiv (by decide) (by decide) fun t10 => ?_
  repeat walk_at "g"
  intro t11
  refine x_mod (by decide) fun t12 => ?_
  repeat walk_at "g"
  refine x_newtuple (Nat.le_of_ble_eq_true rfl) fun x hx => ?_
  exact ⟨x, rfl, hx, ⟨_, _, _, put_self _ _ _⟩, (Ext.refl _).put hx⟩
theorem r1193 {x : Addr} {p : Part} {w : Int} {t : Tok} (e : PartAt σ x p) : Runs (bb + 1) σ 1193 [.ref x, .int w t] [] (fun v σ' => v = .bool (fitsP p w) ∧ σ = σ') := by
  obtain ⟨u1, u2, u3, e⟩ := e
  refine runs (binds := [(S "part", .ref x), (S "word", .int w t)]) f1193 c1193 (fun P s X => .of_eq (by rfl)) (by rfl) (by rfl) (by exact ⟨rfl, rfl, rfl⟩) fun c r => ?_
  unfold fitsP
  repeat walk_at "g"
  intro t1
  refine x_tup_item e (by decide) (by decide) rfl ?_
  repeat walk_at "g"
  intro t2
  repeat walk_at "g"
  by_cases h1 : p.1 < 3
  · rw [if_pos h1]
    refine ite_yes (decide_eq_true h1) ?_
    repeat walk_at "g"
    intro t3
    refine x_tup_item e (by decide) (by decide) rfl ?_
    repeat walk_at "g"
    exact ⟨rfl, rfl⟩
  · rw [if_neg h1]
    refine ite_no (by rw [decide_eq_false h1]; decide) ?_
    repeat walk_at "g"
    intro t3
    refine x_tup_item e (by decide) (by decide) rfl ?_
    repeat walk_at "g"
    intro t4
    repeat walk_at "g"
    by_cases h2 : p.1 = 3
    · rw [if_pos h2]
      refine ite_yes (beq_iff_eq.mpr h2) ?_
      repeat walk_at "g"
      exact ⟨rfl, rfl⟩
    · rw [if_neg h2]
      refine ite_no (by rw [beq_eq_false_iff_ne.mpr h2]; decide) ?_
      repeat walk_at "g"
      refine x_ifexp ?_
      repeat walk_at "g"
      intro t5
      refine x_tup_item e (by decide) (by decide) rfl ?_
      repeat walk_at "g"
      intro t6
      repeat walk_at "g"
      by_cases h3 : p.1 = 7
      · rw [if_pos h3]
        refine ite_yes (beq_iff_eq.mpr h3) ?_
        repeat walk_at "g"
        intro t7
        refine x_tup_item e (by decide) (by decide) rfl ?_
        repeat walk_at "g"
        exact ⟨rfl, rfl⟩
      · rw [if_neg h3]
        refine ite_no (by rw [beq_eq_false_iff_ne.mpr h3]; decide) ?_
        repeat walk_at "g"
        intro t7
        refine x_tup_item e (by decide) (by decide) rfl ?_
        repeat walk_at "g"
        intro t8
        repeat walk_at "g"
        intro t9
        repeat walk_at "g"
        exact ⟨rfl, rfl⟩
theorem r1200 {l : Addr} {vs : List Value} {text : List Int} {place : Nat} {t : Tok} (e : σ l = some (.list vs)) (hi : Ints vs text) (hp : place < text.length) (hz : text.length < 2 ^ 62) :
    Runs (bb + 1) σ 1200 [.ref l, .int place t] [] (fun v σ' => (∃ u, v = .int (wgt text place) u) ∧ σ = σ') := by
  obtain ⟨u, hu⟩ := hi.2 place _ (List.getElem?_eq_getElem hp)
  refine runs (binds := [(S "text", .ref l), (S "place", .int place t)]) f1200 c1200 (fun P s X => .of_eq (by rfl)) (by rfl) (by rfl) (by exact ⟨rfl, rfl, rfl⟩) fun c r => ?_
  repeat walk_at "g"
  intro t1
  repeat walk_at "g"
  refine x_list_item e (Int.natCast_nonneg _) (by omega) (by rw [Int.toNat_natCast]; exact hu) ?_
  repeat walk_at "g"
  intro t2
  repeat walk_at "g"
  intro t3
  refine x_mod (by decide) fun t4 => ?_
  repeat walk_at "g"
  intro t5
  refine ⟨⟨t5, ?_⟩, rfl⟩
  unfold wgt
  rw [List.getD_eq_getElem?_getD, List.getElem?_eq_getElem hp]; rfl
end
inductive PartsAt (σ : AH) (pl : Addr) (parts : List Part) : Prop
  | mk (pv : List Value) (h1 : σ pl = some (.list pv)) (h2 : pv.length = parts.length) (h3 : ∀ (k : Nat) p, parts[k]? = some p → ∃ a, pv[k]? = some (.ref a) ∧ PartAt σ a p) : PartsAt σ pl parts
inductive TextAt (σ : AH) (tl : Addr) (text : List Int) : Prop
  | mk (tv : List Value) (h1 : σ tl = some (.list tv)) (h2 : Ints tv text) : TextAt σ tl text
/-- a list of lists of places -/
inductive RowsAt (σ0 σ : AH) (l : Addr) (rows : List (List Nat)) : Prop
  | mk (vs : List Value) (h1 : σ l = some (.list vs)) (h2 : vs.length = rows.length) (h3 : ∀ (k : Nat) row, rows[k]? = some row → ∃ a ws, a ≠ l ∧ σ0 a = none ∧ vs[k]? = some (.ref a) ∧ σ a = some (.list ws) ∧ Ints ws (row.map fun (i : Nat) => (i : Int))) : RowsAt σ0 σ l rows
noncomputable def waysP (text : List Int) : List Part → Nat → List (List Nat)
  | [], _ => []
  | p :: rest, place => if place < text.length ∧ fitsP p (text.getD place 0) = true then (match rest with
      | [] => [[place]]
      | q :: _ => (List.range' 1 q.2.1.toNat).flatMap fun g => (waysP text rest (place + g)).map (place :: ·)) else []
theorem PartsAt.ext {σ σ' : AH} {pl : Addr} {parts : List Part} (h : PartsAt σ pl parts) (e : Ext σ σ') : PartsAt σ' pl parts := by
  obtain ⟨pv, h1, h2, h3⟩ := h
  refine ⟨pv, e.some h1, h2, fun k p hp => ?_⟩
  obtain ⟨a, h4, t1, t2, t3, h5⟩ := h3 k p hp
  exact ⟨a, h4, t1, t2, t3, e.some h5⟩
theorem TextAt.ext {σ σ' : AH} {tl : Addr} {text : List Int} (h : TextAt σ tl text) (e : Ext σ σ') : TextAt σ' tl text := by
  obtain ⟨tv, h1, h2⟩ := h
  exact ⟨tv, e.some h1, h2⟩
theorem RowsAt.ext {σ0 σ σ' : AH} {l : Addr} {rows : List (List Nat)} (h : RowsAt σ0 σ l rows) (e : Ext σ σ') : RowsAt σ0 σ' l rows := by
  obtain ⟨vs, h1, h2, h3⟩ := h
  refine ⟨vs, e.some h1, h2, fun k p hp => ?_⟩
  obtain ⟨a, ws, h4, h4', h5, h6, h7⟩ := h3 k p hp
  exact ⟨a, ws, h4, h4', h5, e.some h6, h7⟩
theorem RowsAt.ins {σ0 σ σ' : AH} {l it : Addr} {rows : List (List Nat)} (h : RowsAt σ0 σ l rows) (hi : σ it = none ∨ ∃ o, σ it = some (.obj o)) (k : ∀ y, y ≠ it → σ' y = σ y) : RowsAt σ0 σ' l rows := by
  obtain ⟨vs, h1, h2, h3⟩ := h
  refine ⟨vs, ins_list h1 hi k, h2, fun k' p hp => ?_⟩
  obtain ⟨a, ws, h4, h4', h5, h6, h7⟩ := h3 k' p hp
  exact ⟨a, ws, h4, h4', h5, ins_list h6 hi k, h7⟩
theorem RowsAt.snoc {σ0 σ : AH} {l a : Addr} {vs ws : List Value} {rows : List (List Nat)} {row : List Nat} (h : RowsAt σ0 σ l rows) (e : σ l = some (.list vs)) (ea : σ a = some (.list ws)) (hne : a ≠ l) (hn : σ0 a = none) (hi : Ints ws (row.map fun (i : Nat) => (i : Int))) :
    RowsAt σ0 (put σ l (.list (vs ++ [.ref a]))) l (rows ++ [row]) := by
  obtain ⟨vs', h1, h2, h3⟩ := h
  obtain rfl : vs' = vs := by rw [e] at h1; cases h1; rfl
  refine ⟨_, put_self _ _ _, by simp [h2], fun k p hp => ?_⟩
  by_cases q : k < rows.length
  · rw [List.getElem?_append_left q] at hp
    obtain ⟨a', ws', h4, h4', h5, h6, h7⟩ := h3 k p hp
    exact ⟨a', ws', h4, h4', by rw [List.getElem?_append_left (by rw [h2]; exact q)]; exact h5, by rw [put_ne h4]; exact h6, h7⟩
  · rw [List.getElem?_append_right (by omega)] at hp
    have hk : k - rows.length = 0 := by
      have := (List.getElem?_eq_some_iff.mp hp).1
      simp at this; omega
    rw [hk] at hp
    cases hp
    exact ⟨a, ws, hne, hn, by rw [List.getElem?_append_right (by omega), h2, hk]; rfl, by rw [put_ne hne]; exact ea, hi⟩
theorem RowsAt.nil {σ0 σ : AH} {l : Addr} (e : σ l = some (.list [])) : RowsAt σ0 σ l [] := ⟨[], e, rfl, fun k p hp => by simp at hp⟩
theorem flatMap_len {α β : Type} {f : α → List β} {n : Nat} : ∀ (l : List α), (∀ a ∈ l, (f a).length ≤ n) → (l.flatMap f).length ≤ l.length * n
  | [], _ => by simp
  | a :: l, h => by
    have h1 := flatMap_len l fun b hb => h b (List.mem_cons_of_mem _ hb)
    have h2 := h a List.mem_cons_self
    rw [List.flatMap_cons, List.length_append, List.length_cons, Nat.succ_mul]
    omega
theorem waysP_len (text : List Int) : ∀ (parts : List Part) (place : Nat), (∀ p ∈ parts, p.2.1 ≤ 3) → (waysP text parts place).length ≤ 3 ^ parts.length
  | [], _, _ => Nat.zero_le _
  | p :: [], place, _ => by
    unfold waysP
    split
    · simp
    · simp
  | p :: q :: rest, place, h => by
    have ih := fun pl => waysP_len text (q :: rest) pl fun p hp => h p (List.mem_cons_of_mem _ hp)
    unfold waysP
    split
    · refine Nat.le_trans (flatMap_len (n := 3 ^ (q :: rest).length) _ fun g _ => by rw [List.length_map]; exact ih _) ?_
      rw [List.length_range', List.length_cons (a := p), Nat.pow_succ, Nat.mul_comm]
      exact Nat.mul_le_mul_left _ (by have := h q (by simp); omega)
    · exact Nat.zero_le _
theorem Ints.cons {vs : List Value} {ns : List Int} (h : Ints vs ns) (n : Int) (t : Tok) : Ints (.int n t :: vs) (n :: ns) := by
  refine ⟨by simp [h.1], fun k x e => ?_⟩
  cases k with
  | zero => cases e; exact ⟨t, rfl⟩
  | succ k => exact h.2 k x e
theorem waysP_row (text : List Int) : ∀ (parts : List Part) (place : Nat) (row : List Nat), row ∈ waysP text parts place → row.length = parts.length
  | [], _, row, h => by cases h
  | p :: [], place, row, h => by
    unfold waysP at h
    split at h
    · rcases List.mem_singleton.mp h with rfl; rfl
    · cases h
  | p :: q :: rest, place, row, h => by
    unfold waysP at h
    split at h
    · obtain ⟨g, _, h⟩ := List.mem_flatMap.mp h
      obtain ⟨row', h', rfl⟩ := List.mem_map.mp h
      rw [List.length_cons, List.length_cons, waysP_row text (q :: rest) _ row' h']
    · cases h
inductive NewRows (σ : AH) (rows : List (List Nat)) (v : Value) (σ' : AH) : Prop
  | mk (l : Addr) (h1 : v = .ref l) (h2 : σ l = none) (h3 : RowsAt σ σ' l rows) (h4 : Ext σ σ') : NewRows σ rows v σ'
theorem range'_snoc (k : Nat) : List.range' 1 (k + 1) = List.range' 1 k ++ [1 + k] := by rw [List.range'_1_concat]
structure I1207 (σ : AH) (tl pl l : Addr) (turn place : Nat) (t u : Tok) (rows : List (List Nat)) (m' : Lc) (σ' : AH) : Prop where
  E : Ext σ σ'
  m1 : m' "text" = some (.ref tl)
  m2 : m' "parts" = some (.ref pl)
  m3 : m' "turn" = some (.int turn t)
  m4 : m' "place" = some (.int place u)
  m5 : m' "rows" = some (.ref l)
  hR : RowsAt σ σ' l rows
noncomputable def InRows (σ'' : AH) (l : Addr) (vs2 : List Value) (rows : List (List Nat)) : Prop := ∀ (k' : Nat) row, rows[k']? = some row → ∃ a ws, a ≠ l ∧ vs2[k']? = some (.ref a) ∧ σ'' a = some (.list ws) ∧ Ints ws (row.map fun (i : Nat) => (i : Int))
structure J1207 (σ : AH) (tl pl l : Addr) (turn place : Nat) (t u : Tok) (rows : List (List Nat)) (it : Addr) (o : Obj) (vs2 : List Value) (rows2 : List (List Nat)) (m' : Lc) (σ' : AH) : Prop extends I1207 σ tl pl l turn place t u rows m' σ' where
  hi' : σ' it = some (.obj o)
  hA' : InRows σ' l vs2 rows2
theorem r1207 {tl pl : Addr} {text : List Int} {parts : List Part} (hz : text.length < 2 ^ 62) (hp : parts.length ≤ 3) (hg : ∀ p ∈ parts, 1 ≤ p.2.1 ∧ p.2.1 ≤ 3) :
    ∀ (n turn : Nat), turn + (n + 1) = parts.length → ∀ (σ : AH) (place : Nat) (t u : Tok), TextAt σ tl text → PartsAt σ pl parts → Runs (n + 2) σ 1207 [.ref tl, .ref pl, .int turn t, .int place u] [] (NewRows σ (waysP text (parts.drop turn) place)) := by
  intro n
  induction n using Nat.strongRecOn with
  | ind n ih =>
  intro turn hn σ place t u hT hP
  obtain ⟨tv, et, it⟩ := id hT
  obtain ⟨pv, ep, hpv, hpa⟩ := id hP
  have hlt : turn < parts.length := by omega
  obtain ⟨pa, ha1, ha2⟩ := hpa turn _ (List.getElem?_eq_getElem hlt)
  have hlen := waysP_len text (parts.drop turn) place fun p hp => (hg p (List.mem_of_mem_drop hp)).2
  have hW : waysP text (parts.drop turn) place = if place < text.length ∧ fitsP parts[turn] (text.getD place 0) = true then (match parts.drop (turn + 1) with
      | [] => [[place]]
      | q :: _ => (List.range' 1 q.2.1.toNat).flatMap fun g => (waysP text (parts.drop (turn + 1)) (place + g)).map (place :: ·)) else [] := by
    rw [List.drop_eq_getElem_cons hlt]; rfl
  generalize waysP text (parts.drop turn) place = W at hW hlen ⊢
  refine runs (binds := [(S "text", .ref tl), (S "parts", .ref pl), (S "turn", .int turn t), (S "place", .int place u)]) f1207 c1207 (fun P s X => .of_eq (by rfl)) (by rfl) (by rfl) (by exact ⟨rfl, rfl, rfl⟩) fun c r => ?_
  repeat walk_at "g"
  refine x_builtin b_len.1 b_len.2 (by decide) ?_
  refine x_cwb ?_
  repeat walk_at "g"
  refine x_len_list et (by rw [it.1]; exact hz) fun t1 => ?_
  repeat walk_at "g"
  rw [it.1]
  by_cases h1 : place < text.length
  case neg =>
    rw [if_neg fun z => h1 z.1] at hW
    refine ite_yes (decide_eq_true (by omega)) ?_
    refine ite_yes rfl ?_
    repeat walk_at "g"
    refine x_list ?_
    repeat walk_at "g"
    refine x_newlist (by decide) fun l hl => ?_
    exact ⟨l, rfl, hl, hW ▸ RowsAt.nil (put_self _ _ _), (Ext.refl _).put hl⟩
  obtain ⟨tw, hw⟩ := it.2 place _ (List.getElem?_eq_getElem h1)
  have hgd : text.getD place 0 = text[place] := by rw [List.getD_eq_getElem?_getD, List.getElem?_eq_getElem h1]; rfl
  rw [hgd] at hW
  refine ite_no (by rw [decide_eq_false (by omega)]; decide) ?_
  repeat walk_at "g"
  refine x_global g_law_fits.1 ?_
  refine x_cw g_law_fits.2 ?_
  repeat walk_at "g"
  refine x_list_item ep (Int.natCast_nonneg _) (by omega) (by rw [Int.toNat_natCast]; exact ha1) ?_
  repeat walk_at "g"
  refine x_list_item et (Int.natCast_nonneg _) (by omega) (by rw [Int.toNat_natCast]; exact hw) ?_
  repeat walk_at "g"
  refine x_runs (r1193 (bb := n) ha2) r fun v σ' q => ?_
  obtain ⟨rfl, rfl⟩ := q
  repeat walk_at "g"
  by_cases h2 : fitsP parts[turn] text[place] = true
  case neg =>
    rw [if_neg fun z => h2 z.2] at hW
    have h2 : fitsP parts[turn] text[place] = false := by simpa using h2
    refine ite_yes (by rw [h2]; rfl) ?_
    refine ite_yes rfl ?_
    repeat walk_at "g"
    refine x_list ?_
    repeat walk_at "g"
    refine x_newlist (by decide) fun l hl => ?_
    exact ⟨l, rfl, hl, hW ▸ RowsAt.nil (put_self _ _ _), (Ext.refl _).put hl⟩
  rw [if_pos ⟨h1, h2⟩] at hW
  refine ite_no (by rw [h2]; decide) ?_
  repeat walk_at "g"
  refine ite_no (by decide) ?_
  repeat walk_at "g"
  intro t2
  repeat walk_at "g"
  intro t3
  repeat walk_at "g"
  refine x_builtin b_len.1 b_len.2 (by decide) ?_
  refine x_cwb ?_
  repeat walk_at "g"
  refine x_len_list ep (by omega) fun t1 => ?_
  repeat walk_at "g"
  rw [hpv]
  by_cases h3 : turn + 1 = parts.length
  · rw [show parts.drop (turn + 1) = [] by rw [h3]; exact List.drop_length] at hW
    refine ite_yes (beq_iff_eq.mpr (by omega)) ?_
    repeat walk_at "g"
    refine x_list ?_
    repeat walk_at "g"
    refine x_list ?_
    repeat walk_at "g"
    refine x_newlist (by exact Nat.le_of_ble_eq_true rfl) fun a hA => ?_
    repeat walk_at "g"
    refine x_newlist (by exact Nat.le_of_ble_eq_true rfl) fun l hl => ?_
    have E1 : Ext σ (Mine.put σ a (.list [.int place u])) := (Ext.refl _).put hA
    have hal : a ≠ l := fun z => by rw [← z, put_self] at hl; cases hl
    refine ⟨l, rfl, E1.none hl, ?_, E1.put (E1.none hl)⟩
    rw [hW]
    have z := (RowsAt.nil (σ0 := σ) (put_self (Mine.put σ a (.list [.int place u])) l (.list []))).snoc (row := [place]) (put_self _ _ _) (a := a) (ws := [.int place u]) (by rw [put_ne hal, put_self]) hal hA (Ints.nil.snoc place u)
    rwa [put_put] at z
  have hlt2 : turn + 1 < parts.length := by omega
  obtain ⟨n, rfl⟩ : ∃ n', n = n' + 1 := ⟨n - 1, by omega⟩
  have ih := ih n (Nat.lt_succ_self _) (turn + 1) (by omega)
  rw [List.drop_eq_getElem_cons hlt2] at hW
  simp only at hW
  rw [← List.drop_eq_getElem_cons hlt2] at hW
  obtain ⟨qa, hb1, hb2⟩ := hpa (turn + 1) _ (List.getElem?_eq_getElem hlt2)
  obtain ⟨u1, u2, u3, eq⟩ := hb2
  have hq := hg parts[turn + 1] (List.getElem_mem hlt2)
  generalize parts[turn + 1] = q at hb1 eq hq hW
  refine ite_no (by rw [beq_eq_false_iff_ne.mpr (by omega)]; decide) ?_
  repeat walk_at "g"
  refine x_list ?_
  repeat walk_at "g"
  refine x_newlist (by decide) fun l hl => ?_
  repeat walk_at "g"
  have E1 : Ext σ (Mine.put σ l (.list [])) := (Ext.refl _).put hl
  refine x_for ?_
  repeat walk_at "g"
  refine x_builtin b_range.1 b_range.2 (by decide) ?_
  refine x_cwt ?_
  repeat walk_at "g"
  intro t4
  repeat walk_at "g"
  intro t5
  repeat walk_at "g"
  intro t6
  refine x_list_item (E1.some ep) (by omega) (by omega) (by rw [show ((turn : Int) + 1).toNat = turn + 1 by omega]; exact hb1) ?_
  repeat walk_at "g"
  intro t7
  refine x_tup_item (E1.some eq) (by decide) (by decide) rfl ?_
  repeat walk_at "g"
  intro t8
  repeat walk_at "g"
  intro t9
  repeat walk_at "g"
  refine x_range2 fun ra t10 t11 t12 hra => ?_
  have E2 := E1.put (n := .obj { cls := .type "range", dict := none, data := .fields #[.int 1 t10, .int (q.2.1 + 1) t11, .int 1 t12], slots := #[] }) (E1.none hra)
  have hlra : l ≠ ra := fun z => by rw [← z, put_self] at hra; cases hra
  let F := fun g => (waysP text (parts.drop (turn + 1)) (place + g)).map (place :: ·)
  have hW : W = (List.range' 1 q.2.1.toNat).flatMap F := hW
  have hsm : W.length ≤ 27 := Nat.le_trans hlen (Nat.le_trans (Nat.pow_le_pow_right (by decide) (by rw [List.length_drop]; omega : _ ≤ 3)) (by decide))
  refine xf_loop (S := .range 1 q.2.1.toNat) (fun k m' σ' => I1207 σ tl pl l turn place t u ((List.range' 1 k).flatMap F) m' σ')
    ⟨ra, _, t10, t11, t12, rfl, by omega, put_self _ _ _, by decide, by omega⟩ r.2.2 ⟨E2, rfl, rfl, rfl, rfl, rfl, RowsAt.nil (by rw [put_ne hlra, put_self])⟩ ?_ ?_ ?_
  · rintro it k m' σ' σ'' h1 ⟨E, m1, m2, m3, m4, m5, hR⟩ h2 h3
    exact ⟨E.ins (E2.none h1) h3, m1, m2, m3, m4, m5, hR.ins h2 h3⟩
  · rintro it k m' σ' v o h1 ⟨E, m1, m2, m3, m4, m5, hR⟩ h2 _ hk ⟨tv, rfl⟩ Q0 hN hRt
    have hk : k < q.2.1.toNat := hk
    have hit := E2.none h1
    refine x_assign_name ?_
    repeat walk_at "g"
    refine x_for ?_
    repeat walk_at "g"
    refine x_global g_law_ways.1 ?_
    refine x_cw g_law_ways.2 ?_
    repeat walk_at "g"
    intro t13
    repeat walk_at "g"
    intro t14
    repeat walk_at "g"
    intro t15
    repeat walk_at "g"
    refine x_runs (ih σ' (place + (1 + k)) t14 t15 (hT.ext E) (hP.ext E)) r fun v σ1 q => ?_
    obtain ⟨l2, rfl, hl2, ⟨vs2, e2, n2, a2⟩, E3⟩ := q
    have hlx : ∃ vs, σ' l = some (.list vs) := by obtain ⟨vs, z, _⟩ := hR; exact ⟨vs, z⟩
    obtain ⟨vl, hvl⟩ := hlx
    have hll2 : l2 ≠ l := fun z => by rw [z, hvl] at hl2; cases hl2
    refine xf_loop (S := .list l2 vs2) (fun j m'' σ'' => J1207 σ tl pl l turn place t u ((List.range' 1 k).flatMap F ++ ((waysP text (parts.drop (turn + 1)) (place + (1 + k))).take j).map (place :: ·)) it o vs2 (waysP text (parts.drop (turn + 1)) (place + (1 + k))) m'' σ'')
      ⟨rfl, e2⟩ r.2.2 ⟨⟨E.trans E3, m1, m2, m3, m4, m5, ?_⟩, E3.some h2, fun k' row hr => ?_⟩ ?_ ?_ ?_
    · rw [List.take_zero, List.map_nil, List.append_nil]; exact hR.ext E3
    · obtain ⟨a, ws, h4, h5, h6, h7, h8⟩ := a2 k' row hr
      exact ⟨a, ws, (fun z => by rw [z, hvl] at h5; cases h5), h6, h7, h8⟩
    · rintro it2 j m'' σ'' σ3 g1 ⟨⟨E', m1, m2, m3, m4, m5, hR'⟩, hi', hA'⟩ g2 g3
      refine ⟨⟨E'.ins ((E.trans E3).none g1) g3, m1, m2, m3, m4, m5, hR'.ins g2 g3⟩, (g3 it fun z => ?_).trans hi', fun k' row hr => ?_⟩
      · rw [← z, E3.some h2] at g1; cases g1
      · obtain ⟨a, ws, h4, h5, h6, h7⟩ := hA' k' row hr
        exact ⟨a, ws, h4, h5, ins_list h6 g2 g3, h7⟩
    · rintro it2 j m'' σ'' v o2 g1 ⟨⟨E', m1, m2, m3, m4, m5, hR'⟩, hi', hA'⟩ g2 gb hj hv Q1 hN1 hRt1
      have hj : j < vs2.length := hj
      have hv : vs2[j]? = some v := hv
      have hjr : j < (waysP text (parts.drop (turn + 1)) (place + (1 + k))).length := by omega
      obtain ⟨a, ws, h4, h5, h6, h7⟩ := hA' j _ (List.getElem?_eq_getElem hjr)
      obtain rfl : v = .ref a := by rw [h5] at hv; cases hv; rfl
      have hvl' : ∃ vs, σ'' l = some (.list vs) ∧ vs.length ≤ 27 := by
        obtain ⟨vs, z, z2, _⟩ := hR'
        refine ⟨vs, z, ?_⟩
        rw [z2]
        refine Nat.le_trans ?_ hsm
        rw [hW, show q.2.1.toNat = k + (1 + (q.2.1.toNat - (k + 1))) by omega, ← List.range'_append_1, List.flatMap_append, List.length_append, List.length_append, ← List.range'_append_1, List.flatMap_append, List.length_append]
        refine Nat.add_le_add_left (Nat.le_trans ?_ (Nat.le_add_right _ _)) _
        rw [List.range'_one, List.flatMap_singleton]
        show _ ≤ (List.map _ _).length
        rw [List.length_map, List.length_map, List.length_take, Nat.add_comm 1 k]
        exact Nat.min_le_right _ _
      obtain ⟨vl', hvl', hsz⟩ := hvl'
      refine x_assign_name ?_
      repeat walk_at "g"
      refine x_m_append hvl' ?_
      refine x_cwf ?_
      repeat walk_at "g"
      refine x_list ?_
      repeat walk_at "g"
      refine x_newlist (by exact Nat.le_of_ble_eq_true rfl) fun b hb => ?_
      repeat walk_at "g"
      have Eb : Ext σ'' (Mine.put σ'' b (.list [.int place u])) := (Ext.refl _).put hb
      refine x_add_list (put_self _ _ _) (Eb.some h6) ?_ fun d hd => ?_
      · have z := waysP_row text _ _ _ (List.getElem_mem hjr)
        have z2 := h7.1
        rw [List.length_map, z, List.length_drop] at z2
        show 1 + ws.length ≤ sizeLine
        exact Nat.le_trans (by omega : _ ≤ 4) (by decide)
      have Ed := Eb.put (n := .list ([.int place u] ++ ws)) (Eb.none hd)
      repeat walk_at "g"
      refine x_append (Ed.some hvl') (Nat.le_trans hsz (by decide)) ?_
      refine ⟨fun a => (nomatch ·), ?_⟩
      repeat walk_at "g"
      have hdl : d ≠ l := fun z => by rw [z, Eb.some hvl'] at hd; cases hd
      have hil : it ≠ l := fun z => by rw [z, hvl'] at hi'; cases hi'
      have hil2 : it2 ≠ l := fun z => by rw [z, hvl'] at g2; cases g2
      refine hN1 _ _ ⟨⟨(E'.trans Ed).put hl, m1, m2, m3, m4, m5, ?_⟩, by rw [put_ne hil]; exact Ed.some hi', fun k' row hr => ?_⟩ (by rw [put_ne hil2]; exact Ed.some g2) (by show Mine.put _ l _ l2 = _; rw [put_ne hll2]; exact Ed.some gb)
      · have z := (hR'.ext Ed).snoc (row := place :: (waysP text (parts.drop (turn + 1)) (place + (1 + k)))[j]) (Ed.some hvl') (put_self _ _ _) hdl ((E'.trans Eb).none hd) (h7.cons place u)
        rw [List.append_assoc] at z
        rwa [show (waysP text (parts.drop (turn + 1)) (place + (1 + k))).take (j + 1) = (waysP text (parts.drop (turn + 1)) (place + (1 + k))).take j ++ [(waysP text (parts.drop (turn + 1)) (place + (1 + k)))[j]] by
          rw [List.take_append_getElem], List.map_append]
      · obtain ⟨a, ws, h4, h5, h6, h7⟩ := hA' k' row hr
        exact ⟨a, ws, h4, h5, by rw [put_ne h4]; exact Ed.some h6, h7⟩
    · rintro m'' σ'' ⟨⟨E', m1, m2, m3, m4, m5, hR'⟩, hi', hA'⟩
      repeat walk_at "g"
      refine hN _ _ ⟨E', m1, m2, m3, m4, m5, ?_⟩ hi' trivial
      rw [show Src.n (.list l2 vs2) = (waysP text (parts.drop (turn + 1)) (place + (1 + k))).length from n2, List.take_length] at hR'
      rw [range'_snoc, List.flatMap_append, List.flatMap_singleton]
      exact hR'
  · rintro m' σ' ⟨E, m1, m2, m3, m4, m5, hR⟩
    repeat walk_at "g"
    exact ⟨l, rfl, hl, hW ▸ hR, E⟩
theorem Ints.are {vs : List Value} {ns : List Int} : Ints vs ns → IntsAre vs ns := by
  induction ns generalizing vs with
  | nil => rintro ⟨h, _⟩; cases vs with
    | nil => exact .nil
    | cons v vs => simp at h
  | cons n ns ih =>
    rintro ⟨h, h2⟩
    cases vs with
    | nil => simp at h
    | cons v vs =>
      obtain ⟨t, ht⟩ := h2 0 n rfl
      cases ht
      exact .cons n t (ih ⟨by simpa using h, fun k x e => h2 (k + 1) x e⟩)
theorem Ints.take {vs : List Value} {ns : List Int} (h : Ints vs ns) (k : Nat) : Ints (vs.take k) (ns.take k) := by
  refine ⟨by rw [List.length_take, List.length_take, h.1], fun j x e => ?_⟩
  by_cases q : j < k
  · rw [List.getElem?_take_of_lt q] at e ⊢
    exact h.2 j x e
  · rw [List.getElem?_eq_none (by rw [List.length_take]; omega)] at e; cases e
section
variable {α β : Type} {c : Cx} {m : Lc} {σ : AH} {env : Env}
theorem x_ne_lists {a b : Addr} {vs ws : List Value} {ns ms : List Int} {Q : Value → Lc → AH → Prop} (ea : σ a = some (.list vs)) (eb : σ b = some (.list ws)) (hi : Ints vs ns) (hj : Ints ws ms) (hr : Room c.A 8)
    (h : Q (.bool (!decide (ns = ms))) m σ) : XV c m σ (compareOp .NotEq (.ref a) (.ref b)) Q := .mk fun s S =>
  ke_ne_ints (S.list ea) (S.list eb) hi.are hj.are (by have := hr.2.1; omega) ⟨m, σ, S, h⟩
/-- o[:e] -/
theorem x_slice_to {value up : Expr} {p pos : Pos} {Q : Value → Lc → AH → Prop}
    (h : XV c m σ (eval value env) fun o m1 σ1 => XV c m1 σ1 (eval up env) fun u m2 σ2 => ∃ l vs k t, o = .ref l ∧ σ2 l = some (.list vs) ∧ vs.length ≤ sizeLine ∧ u = .int (k : Nat) t ∧ ∀ x, σ2 x = none → Q (.ref x) m2 (put σ2 x (.list (vs.take k))))
    (ht : ∀ o r, letTemporaryGo value o r = pure () := by intro _ _; rfl) :
    XV c m σ (eval (.Subscript value (.Slice none (some up) none p) pos) env) Q := .mk fun s S => by
  refine wpAny_Subscript_list_slice (wpAny_mono (h.run s S) (fun o s1 ⟨m1, σ1, S1, q⟩ => wpAny_pure (wpAny_mono (q.run s1 S1) (fun u s2 ⟨m2, σ2, S2, z⟩ => ?_) fun _ _ e => e)) fun _ _ e => e) ht
  obtain ⟨l, vs, k, t, rfl, e, hz, rfl, hq⟩ := z
  refine ⟨l, vs.toArray, none, some (k : Int), rfl, S2.list e, by rw [List.size_toArray]; exact hz, ?_, ?_, ?_⟩
  · exact .none
  · exact .int _ _
  · have S3 := S2.push { cls := .type "slice", data := .fields #[.none, .int k t, .none] } s2.toks
    have z := S3.pushList (vs.take k)
    have sz : (s2.heap.push { cls := .type "slice", data := .fields #[.none, .int k t, .none] }).objs.size = s2.heap.objs.size + 1 := Heap.size_push ..
    refine ⟨m2, _, ?_, hq _ (by rw [← sz]; exact z.1)⟩
    rw [slicePick_upto', ← sz]
    exact z.2
end

noncomputable def rowSum (text : List Int) (past row : List Nat) : Nat → Int
  | 0 => 0
  | k + 1 => rowSum text past row k + (if row.take (k + 1) = past.take (k + 1) then 0 else wgt text (row.getD k 0))
noncomputable def sumGo (text : List Int) : List Nat → List (List Nat) → Int
  | _, [] => 0
  | past, row :: rest => rowSum text past row row.length + sumGo text row rest
theorem castInj {a b : List Nat} : (a.map fun (i : Nat) => (i : Int)) = b.map (fun (i : Nat) => (i : Int)) ↔ a = b := by
  constructor
  · intro h
    exact (List.map_inj_right fun _ _ q => Int.ofNat.inj q).mp h
  · rintro rfl; rfl
/-- the total over the rows that a loop has taken -/
noncomputable def sumTo (text : List Int) (rows : List (List Nat)) : Nat → Int
  | 0 => 0
  | k + 1 => sumTo text rows k + rowSum text (if k = 0 then [] else rows.getD (k - 1) []) (rows.getD k []) (rows.getD k []).length
theorem sumTo_go (text : List Int) : ∀ (rest pre : List (List Nat)) (past : List Nat), past = (if pre.length = 0 then [] else pre.getD (pre.length - 1) []) →
    sumTo text (pre ++ rest) (pre ++ rest).length = sumTo text (pre ++ rest) pre.length + sumGo text past rest
  | [], pre, past, h => by simp [sumGo]
  | row :: rest, pre, past, h => by
    have ih := sumTo_go text rest (pre ++ [row]) row (by simp)
    rw [List.append_assoc, List.singleton_append] at ih
    rw [ih, List.length_append, List.length_singleton, sumTo, sumGo]
    have h1 : (pre ++ row :: rest).getD pre.length [] = row := by simp
    have h2 : (if pre.length = 0 then [] else (pre ++ row :: rest).getD (pre.length - 1) []) = past := by
      rw [h]
      by_cases q : pre.length = 0
      · rw [if_pos q, if_pos q]
      · rw [if_neg q, if_neg q, List.getD_eq_getElem?_getD, List.getD_eq_getElem?_getD, List.getElem?_append_left (by omega)]
    rw [h1, h2]
    omega
theorem sumTo_all (text : List Int) (rows : List (List Nat)) : sumTo text rows rows.length = sumGo text [] rows := by
  have := sumTo_go text rows [] [] rfl
  simpa [sumTo] using this
section
variable {σ : AH}
theorem r1214 {tl l : Addr} {text : List Int} {rows : List (List Nat)} {σ0 : AH} (hz : text.length < 2 ^ 62) (hT : TextAt σ tl text) (hR : RowsAt σ0 σ l rows) (hrow : ∀ row ∈ rows, row.length ≤ 3 ∧ ∀ i ∈ row, i < text.length) :
    Runs 9 σ 1214 [.ref tl, .ref l] [] (fun v σ' => (∃ u, v = .int (sumGo text [] rows) u) ∧ Ext σ σ') := by
  rw [← sumTo_all]
  obtain ⟨vs, el, hlen, hr⟩ := hR
  refine runs (binds := [(S "text", .ref tl), (S "rows", .ref l)]) f1214 c1214 (fun P s X => .of_eq (by rfl)) (by rfl) (by rfl) (by exact ⟨rfl, rfl, rfl⟩) fun c r => ?_
  repeat walk_at "g"
  intro t1
  repeat walk_at "g"
  refine x_list ?_
  repeat walk_at "g"
  refine x_newlist (by decide) fun p0 hp0 => ?_
  have E1 : Ext σ (Mine.put σ p0 (.list [])) := (Ext.refl _).put hp0
  repeat walk_at "g"
  refine x_for ?_
  repeat walk_at "g"
  let pastK := fun k : Nat => (if k = 0 then [] else rows.getD (k - 1) [])
  refine xf_loop (S := .list l vs) (fun k m' σ' => Ext σ σ' ∧ m' "text" = some (.ref tl) ∧ (∃ u, m' "total" = some (.int (sumTo text rows k) u)) ∧ ∃ p ws, m' "past" = some (.ref p) ∧ σ' p = some (.list ws) ∧ Ints ws ((pastK k).map fun (i : Nat) => (i : Int)))
    ⟨rfl, E1.some el⟩ r.2.2 ⟨E1, rfl, ⟨_, rfl⟩, p0, [], rfl, put_self _ _ _, Ints.nil⟩ ?_ ?_ ?_
  · rintro it k m' σ' σ'' h1 ⟨E, m1, m2, p, ws, m3, e3, i3⟩ h2 h3
    exact ⟨E.ins (E1.none h1) h3, m1, m2, p, ws, m3, ins_list e3 h2 h3, i3⟩
  · rintro it k m' σ' v o h1 ⟨E, m1, ⟨u, m2⟩, p, ws, m3, e3, i3⟩ h2 hb hk hv Q0 hN hRt
    have hk : k < vs.length := hk
    have hv : vs[k]? = some v := hv
    have hkr : k < rows.length := by omega
    have hgd : rows.getD k [] = rows[k] := by rw [List.getD_eq_getElem?_getD, List.getElem?_eq_getElem hkr]; rfl
    obtain ⟨a, ws2, _, _, h5, h6, h7⟩ := hr k _ (List.getElem?_eq_getElem hkr)
    obtain rfl : v = .ref a := by rw [h5] at hv; cases hv; rfl
    obtain ⟨hl3, hin⟩ := hrow _ (List.getElem_mem hkr)
    generalize hrw : rows[k] = row at *
    have ea := E.some h6
    have la : ws2.length = row.length := by rw [h7.1, List.length_map]
    refine x_assign_name ?_
    repeat walk_at "g"
    refine x_for ?_
    repeat walk_at "g"
    refine x_builtin b_range.1 b_range.2 (by decide) ?_
    refine x_cwt ?_
    repeat walk_at "g"
    intro t2
    repeat walk_at "g"
    refine x_builtin b_len.1 b_len.2 (by decide) ?_
    refine x_cwb ?_
    repeat walk_at "g"
    refine x_len_list ea (by omega) fun t3 => ?_
    repeat walk_at "g"
    intro t4
    repeat walk_at "g"
    intro t5
    repeat walk_at "g"
    refine x_range2 fun ra t6 t7 t8 hra => ?_
    have E2 : Ext σ' (Mine.put σ' ra (.obj { cls := .type "range", dict := none, data := .fields #[.int 1 t6, .int (ws2.length + 1) t7, .int 1 t8], slots := #[] })) := (Ext.refl _).put hra
    refine xf_loop (S := .range 1 row.length) (fun j m'' σ'' => Ext σ' σ'' ∧ m'' "text" = some (.ref tl) ∧ m'' "row" = some (.ref a) ∧ m'' "past" = some (.ref p) ∧ ∃ u, m'' "total" = some (.int (sumTo text rows k + rowSum text (pastK k) row j) u))
      ⟨ra, _, t6, t7, t8, rfl, by rw [la]; omega, put_self _ _ _, by decide, by rw [la]; omega⟩ r.2.2 ⟨E2, m1, rfl, m3, u, by rw [rowSum, Int.add_zero]; exact m2⟩ ?_ ?_ ?_
    · rintro it2 j m'' σ'' σ3 g1 ⟨E', m1, m2, m3, m4⟩ g2 g3
      exact ⟨E'.ins (E2.none g1) g3, m1, m2, m3, m4⟩
    · rintro it2 j m'' σ'' v o2 g1 ⟨E', m1, m2, m3, u, m4⟩ g2 _ hj ⟨tv, rfl⟩ Q1 hN1 hRt1
      have hj : j < row.length := hj
      refine x_assign_name ?_
      walk_at "g"
      walk_at "g"
      walk_at "g"
      walk_at "g"
      refine x_slice_to ?_
      repeat walk_at "g"
      refine ⟨a, ws2, j + 1, tv, rfl, E'.some ea, Nat.le_trans (by omega : _ ≤ 3) (by decide), by rw [Int.add_comm]; rfl, fun y1 hy1 => ?_⟩
      have F1 : Ext σ'' (Mine.put σ'' y1 (.list (ws2.take (j + 1)))) := (Ext.refl _).put hy1
      have ep1 := F1.some (E'.some e3)
      refine x_slice_to ?_
      repeat walk_at "g"
      refine ⟨p, ws, j + 1, tv, rfl, ep1, ?_, by rw [Int.add_comm]; rfl, fun y2 hy2 => ?_⟩
      · have hpk : (pastK k).length ≤ 3 := by
          show (if k = 0 then [] else rows.getD (k - 1) []).length ≤ 3
          split
          · exact Nat.zero_le _
          · have hk1 : k - 1 < rows.length := by omega
            rw [List.getD_eq_getElem?_getD, List.getElem?_eq_getElem hk1]
            exact (hrow _ (List.getElem_mem hk1)).1
        rw [i3.1, List.length_map]
        exact Nat.le_trans hpk (by decide)
      have F2 := F1.put (n := .list (ws.take (j + 1))) (F1.none hy2)
      have hy12 : y1 ≠ y2 := fun z => by rw [← z, put_self] at hy2; cases hy2
      refine x_ne_lists (by rw [put_ne hy12]; exact put_self _ _ _) (put_self _ _ _) (h7.take _) (i3.take _) r ?_
      repeat walk_at "g"
      rw [← List.map_take, ← List.map_take]
      by_cases q : row.take (j + 1) = (pastK k).take (j + 1)
      · refine ite_no (by rw [decide_eq_true (castInj.mpr q)]; decide) ?_
        repeat walk_at "g"
        refine hN1 _ _ ⟨E'.trans F2, m1, m2, m3, u, ?_⟩ (F2.some g2) trivial
        rw [rowSum, if_pos q, Int.add_zero]
        exact m4
      · refine ite_yes (by rw [decide_eq_false fun z => q (castInj.mp z)]; rfl) ?_
        repeat walk_at "g"
        refine x_global g_law_weight.1 ?_
        refine x_cw g_law_weight.2 ?_
        repeat walk_at "g"
        intro t9
        repeat walk_at "g"
        intro t10
        obtain ⟨tw, hw⟩ := h7.2 j (row[j] : Nat) (by rw [List.getElem?_map, List.getElem?_eq_getElem hj]; rfl)
        refine x_list_item (F2.some (E'.some ea)) (by omega) (by omega) (by rw [show ((1 : Int) + j - 1).toNat = j by omega]; exact hw) ?_
        repeat walk_at "g"
        obtain ⟨tv', et, iT⟩ := hT
        refine x_runs (r1200 (bb := 7) (place := row[j]) (F2.some (E'.some (E.some et))) iT (hin _ (List.getElem_mem hj)) hz) r fun v σ4 q4 => ?_
        obtain ⟨⟨u2, rfl⟩, rfl⟩ := q4
        repeat walk_at "g"
        intro t11
        repeat walk_at "g"
        refine hN1 _ _ ⟨E'.trans F2, m1, m2, m3, t11, ?_⟩ (F2.some g2) trivial
        show some (Value.int (sumTo text rows k + rowSum text (pastK k) row j + wgt text row[j]) t11) = _
        rw [rowSum, if_neg q, Int.add_assoc, List.getD_eq_getElem?_getD, List.getElem?_eq_getElem hj]; rfl
    · rintro m'' σ'' ⟨E', m1, m2, m3, u, m4⟩
      repeat walk_at "g"
      refine hN _ _ ⟨E.trans E', m1, ⟨u, ?_⟩, a, ws2, rfl, E'.some ea, ?_⟩ (E'.some h2) ?_
      · show m'' "total" = _
        rw [m4, sumTo, hgd]; rfl
      · show Ints ws2 ((if k + 1 = 0 then [] else rows.getD (k + 1 - 1) []).map _)
        rw [if_neg (Nat.succ_ne_zero k), Nat.add_sub_cancel, hgd]; exact h7
      · exact E'.some hb
  · rintro m' σ' ⟨E, m1, ⟨u, m2⟩, p, ws, m3, e3, i3⟩
    repeat walk_at "g"
    refine ⟨⟨u, ?_⟩, E⟩
    rw [show Src.n (.list l vs) = rows.length from hlen]; rfl
end
section
variable {α β : Type} {c : Cx} {m : Lc} {σ : AH} {env : Env}
-- names in any frame
theorem x_nameE {x : PySem.Str} {pos : Pos} {v : Value} {Q : Value → Lc → AH → Prop} (hv : m x = some v) (h : Q v m σ) (hL : env.locals = c.L := by rfl)
    (hl : env.kindOf x = some .local := by rfl) (hk : env.scope.kind = .function := by rfl) (hd : (x == ("__debug__" : PySem.Str)) = false := by rfl) : XV c m σ (eval (.Name x pos) env) Q :=
  .mk fun _ S => wpAny_Name (wpAny_loadName_local hk hl (by rw [hL]; exact S.f.ns) hv ⟨m, σ, S, h⟩) hd
theorem x_cellE {x : PySem.Str} {pos : Pos} {v : Value} {a : Addr} {Q : Value → Lc → AH → Prop} (hc : env.cells.lookup x = some a) (e : σ a = some (.cell (some v))) (h : Q v m σ)
    (hl : env.kindOf x = some .cell := by rfl) (hk : env.scope.kind = .function := by rfl) (hd : (x == ("__debug__" : PySem.Str)) = false := by rfl) : XV c m σ (eval (.Name x pos) env) Q :=
  .mk fun _ S => wpAny_Name (wpAny_loadName_cell hk hl hc (S.nodes a _ e) ⟨m, σ, S, h⟩) hd
theorem x_globalE {x : PySem.Str} {pos : Pos} {v : Value} {Q : Value → Lc → AH → Prop} (e : ∀ P, nsIn (Hd.KK P) mainGlobals x = some (some v)) (h : Q v m σ) (hg : env.globals = mainGlobals := by rfl)
    (hl : env.kindOf x = some .globalImplicit := by rfl) (hk : env.scope.kind = .function := by rfl) (hd : (x == ("__debug__" : PySem.Str)) = false := by rfl) : XV c m σ (eval (.Name x pos) env) Q :=
  .mk fun _ S => Name_function_global hk hl (loadGlobal_global (env := env) (by rw [hg]; exact S.t.g.keeps S.f.keep) (mg_of S.k S.t.g (e _)) ⟨m, σ, S, h⟩) hd
theorem x_builtinE {x : PySem.Str} {pos : Pos} {v : Value} {Q : Value → Lc → AH → Prop} (e : ∀ P, nsIn (Hd.KK P) mainGlobals x = some none) (hv : bootBuiltins x = some v) (hn : x ≠ "__name__") (h : Q v m σ) (hg : env.globals = mainGlobals := by rfl) (hb : env.builtins = builtinsNs := by rfl)
    (hl : env.kindOf x = some .globalImplicit := by rfl) (hk : env.scope.kind = .function := by rfl) (hd : (x == ("__debug__" : PySem.Str)) = false := by rfl) : XV c m σ (eval (.Name x pos) env) Q :=
  .mk fun _ S => Name_function_global hk hl (loadGlobal_builtin (env := env) (by rw [hg]; exact S.t.g.keeps S.f.keep) (mg_none_of S.k S.t.g (e _)) (by rw [hb]; exact S.t.b.keeps S.f.keep) ((S.t.builtins x hn).trans hv) ⟨m, σ, S, h⟩) hd
theorem x_storeE {x : PySem.Str} {v : Value} {Q : Unit → Lc → AH → Prop} (h : Q () (upd m x v) σ) (hL : env.locals = c.L := by rfl)
    (hl : env.kindOf x = some .local := by rfl) (hk : env.scope.kind = .function := by rfl) : XV c m σ (storeName env x v) Q :=
  .mk fun _ S => wpAny_storeName_local hl (by rw [hL]; exact S.f.ns) (fun h' hn hs => ⟨_, σ, S.setL (hL ▸ hn) (hL ▸ hs), h⟩) (by rw [hk]; rfl)
theorem x_storeC {x : PySem.Str} {v : Value} {v0 : Option Value} {a : Addr} {Q : Unit → Lc → AH → Prop} (hc : env.cells.lookup x = some a) (e : σ a = some (.cell v0)) (h : Q () m (put σ a (.cell (some v))))
    (hl : env.kindOf x = some .cell := by rfl) (hk : env.scope.kind = .function := by rfl) : XV c m σ (storeName env x v) Q :=
  .mk fun s S => wpAny_storeName_cell hk hl hc (S.nodes a _ e) fun h' hn hs => ⟨m, _, S.turn (t := s.toks) (n' := .cell (some v)) e hn (fun a w => w) (fun a o w q => (hs.2 a w).trans q), h⟩
-- frames
theorem ST.enter {s : Shared} {h1 : Heap} {t : Nat} {m0 : Lc} {A' : Around} (S : ST c m σ s) (hns : h1.Ns s.heap.objs.size m0) (hk1 : ∀ a o, s.heap.get? a = some o → h1.get? a = some o) :
    ST { c with A := A', h₀ := hideAll s.heap (loosen c.h₀ c.L s.heap), L := s.heap.objs.size } m0 σ { s with heap := h1, toks := t } := by
  have st0 : ∀ a o, c.h₀.get? a = some o → (hideAll s.heap (loosen c.h₀ c.L s.heap)).get? a = some o := fun a o e => hideAll_get _ (S.f.keep a o e) fun q => by rw [(mem_loosen.mp q).2.2] at e; cases e
  refine ⟨S.k.keeps st0, S.t.keeps st0, ⟨hns, fun a o e => hk1 a o (of_hideAll _ e), Nat.le_of_eq (hideAll_size _ _)⟩, fun y n e => (S.nodes y n e).keep fun a o _ q => hk1 a o q, fun y n a e w => ?_, S.sep, S.gens, S.os⟩
  have lt := S.fresh e w
  exact ⟨Nat.ne_of_lt lt, hideAll_none _ (mem_loosen.mpr ⟨lt, S.out _ _ _ e w⟩)⟩
theorem ST.leave {s s' : Shared} {m' : Lc} {σ' : AH} {A' : Around} (S : ST c m σ s) (T : ST { c with A := A', h₀ := hideAll s.heap (loosen c.h₀ c.L s.heap), L := s.heap.objs.size } m' σ' s') : ST c m σ' s' := by
  obtain ⟨oL, es, ep, hL, hLr⟩ := S.f.ns
  have hLg : (hideAll s.heap (loosen c.h₀ c.L s.heap)).get? c.L = some oL := hideAll_get _ hL fun q => (mem_loosen.mp q).2.1 rfl
  have st0 : ∀ a o, c.h₀.get? a = some o → (hideAll s.heap (loosen c.h₀ c.L s.heap)).get? a = some o := fun a o e => hideAll_get _ (S.f.keep a o e) fun q => by rw [(mem_loosen.mp q).2.2] at e; cases e
  refine ⟨S.k, S.t, ⟨⟨oL, es, ep, T.f.keep _ _ hLg, hLr⟩, fun a o e => T.f.keep a o (st0 a o e), S.f.above⟩, T.nodes, fun y n a e w => ⟨fun z => ?_, ?_⟩, T.sep, T.gens, T.os⟩
  · have := (T.out _ _ _ e w).2
    rw [z] at this
    exact absurd (this.symm.trans hLg) (by simp)
  · rcases z : c.h₀.get? a with _ | o
    · rfl
    · have := (T.out _ _ _ e w).2
      exact absurd (this.symm.trans (st0 _ _ z)) (by simp)
/-- a frame left, its names kept as an object -/
theorem ST.leaveN {s s' : Shared} {m' : Lc} {σ' : AH} {A' : Around} (S : ST c m σ s) (T : ST { c with A := A', h₀ := hideAll s.heap (loosen c.h₀ c.L s.heap), L := s.heap.objs.size } m' σ' s') :
    ∃ o, σ' s.heap.objs.size = none ∧ (∀ h : Heap, h.get? s.heap.objs.size = some o → h.Ns s.heap.objs.size m') ∧ ST c m (put σ' s.heap.objs.size (.obj o)) s' := by
  have z := S.leave T
  obtain ⟨oC, es, ep, hC, hCr⟩ := T.f.ns
  have nC : ∀ y n, σ' y = some n → ¬ owns n y s.heap.objs.size := fun y n e w => (T.out y n _ e w).1 rfl
  refine ⟨oC, ?_, fun h hg => ⟨oC, es, ep, hg, hCr⟩, z.add (x := s.heap.objs.size) (n := .obj oC) hC fun a w => ?_⟩
  · rcases q : σ' s.heap.objs.size with _ | n
    · rfl
    · exact (nC _ _ q (owns_self _ _)).elim
  · cases (show a = s.heap.objs.size from w)
    exact ⟨Nat.ne_of_gt S.ltL, S.gone0 (Nat.le_refl _), nC⟩
end
noncomputable def putC (σ : AH) : List (PySem.Str × Addr × Option Value) → AH
  | [] => σ
  | (_, a, v) :: r => put (putC σ r) a (.cell v)
section
variable {α β : Type} {c : Cx} {m : Lc} {σ : AH} {env : Env}
theorem ST.cells {s : Shared} {lo : Nat} {m0 : Lc} : ∀ (cs : List (PySem.Str × Addr × Option Value)) (S : ST c m0 σ s), (∀ x ∈ cs, s.heap.IsCell x.2.1 x.2.2 ∧ lo ≤ x.2.1) → (cs.Pairwise fun x y => x.2.1 ≠ y.2.1) → c.L < lo → (∀ a o, c.h₀.get? a = some o → a < lo) → (∀ y n a, σ y = some n → owns n y a → a < lo) → ST c m0 (putC σ cs) s
  | [], S, _, _, _, _, _ => S
  | (n, a, v) :: r, S, h, hp, hL, h0, hf => by
    obtain ⟨hp1, hp2⟩ := List.pairwise_cons.mp hp
    obtain ⟨hc, hlo⟩ : s.heap.IsCell a v ∧ lo ≤ a := h (n, a, v) List.mem_cons_self
    have ih := ST.cells r S (fun x hx => h x (List.mem_cons_of_mem _ hx)) hp2 hL h0 hf
    refine ih.add (x := a) (n := .cell v) hc fun b w => ?_
    obtain rfl : b = a := w
    refine ⟨fun z => Nat.lt_irrefl _ (Nat.lt_of_lt_of_le (z ▸ hL) hlo), ?_, fun y n' e w' => ?_⟩
    · rcases z : c.h₀.get? b with _ | o
      · rfl
      · exact (Nat.lt_irrefl _ (Nat.lt_of_lt_of_le (h0 _ _ z) hlo)).elim
    · have key : ∀ (cs : List (PySem.Str × Addr × Option Value)) (y : Addr) (n' : Node), putC σ cs y = some n' → owns n' y b → (∃ x ∈ cs, x.2.1 = b) ∨ b < lo := by
        intro cs
        induction cs with
        | nil => exact fun y n' e w => .inr (hf y n' b e w)
        | cons x cs ih =>
          intro y n' e w
          obtain ⟨xn, xa, xv⟩ := x
          unfold putC put at e
          split at e
          · rename_i q
            subst q
            cases e
            exact .inl ⟨_, List.mem_cons_self, (show b = y from w).symm⟩
          · rcases ih y n' e w with ⟨x, hx, q⟩ | q
            · exact .inl ⟨x, List.mem_cons_of_mem _ hx, q⟩
            · exact .inr q
      rcases key r y n' e w' with ⟨x, hx, q⟩ | q
      · exact hp1 x hx q.symm
      · exact Nat.lt_irrefl _ (Nat.lt_of_lt_of_le q hlo)
theorem xc_callC {b : Nat} {f : Addr} {st : Stmt} {qual : PySem.Str} {dv pm cdv ct : Value} {vs : List Value} {kw : List (PySem.Str × Value)} {binds : List (PySem.Str × Value)} {Q : Value → Lc → AH → Prop} (cf : Nat → List (PySem.Str × Addr × Option Value))
    (hf : ∀ P, (Hd.KK P).lookup f = some (Hd.fnO st qual [] dv pm cdv ct)) (hcd : ∀ P, codeIn (Hd.KK P) cdv qual = true)
    (hb : ∀ P (s : Shared), (Hd.KK P).In s.heap → BindsTo s (fnX (Hd.fName st) qual (Hd.fArgs st) (Hd.fBody st) (Hd.fScope st) [] dv .none .none pm none cdv ct) ⟨vs, kw⟩ binds)
    (hkind : ∀ n, ∀ x ∈ binds, (Hd.fScope st).names.lookup x.1 = some .local ∨ ((Hd.fScope st).names.lookup x.1 = some .cell ∧ ((cellsFrom n (Hd.fScope st).names []).lookup x.1).isSome = true))
    (hcf : ∀ n, cellsFrom n (Hd.fScope st).names [] = (cf n).map fun x => (x.1, x.2.1))
    (hcm : ∀ n, ∀ x ∈ cf n, ((cf n).map fun x => (x.1, x.2.1)).lookup x.1 = some x.2.1 ∧ bindC (fun y => (Hd.fScope st).names.lookup y) binds (fun _ => none) x.1 = x.2.2)
    (hk : (Hd.fScope st).isCoroutine = false ∧ (Hd.fScope st).isGenerator = false ∧ (Hd.fScope st).kind = .function) (hr : Room c.A (b + 1))
    (h : ∀ A' h₀' L', Room A' b → (∀ x ∈ cf (L' + 1), σ x.2.1 = none) → XV { c with A := A', h₀ := h₀', L := L' } (bindL (fun y => (Hd.fScope st).names.lookup y) binds fun _ => none) (putC σ (cf (L' + 1)))
      (execs (Hd.fBody st) (envX qual (Hd.fScope st) L' f cdv ((cf (L' + 1)).map fun x => (x.1, x.2.1)))) fun fl _ σ' => Q (retv fl) m σ') :
    XC c m σ (.call (.ref f) ⟨vs, kw⟩) Q := .mk fun s S => by
  obtain ⟨hco, hgen, hkk⟩ := hk
  have X : (Hd.KK c.w.params).In s.heap := S.k.keeps S.f.keep
  refine codeAny_call_function (Nat.lt_of_le_of_lt (Nat.le_add_right _ _) hr.1) (X _ _ (hf _)) rfl hco hgen rfl (codeRec_of X (hcd _)) (hb _ s X _ _ _ _ ?_)
  refine wpAny_newFunctionEnv_cells hkk (hkind _) fun env' he s' x => ?_
  subst he
  refine ⟨(S.t.nolimit.keeps S.f.keep).keeps x.toInCall.keep, codeAny_func ?_⟩
  obtain ⟨h1, tk, rfl, _⟩ := x.done
  have hk1 := x.toInCall.keep
  have S0 := S.enter (A' := c.A.deeper (envX qual (Hd.fScope st) s.heap.objs.size f cdv (cellsFrom (s.heap.objs.size + 1) (Hd.fScope st).names []))) (t := tk) x.toInCall.ns hk1
  have cellfact : ∀ z ∈ cf (s.heap.objs.size + 1), h1.IsCell z.2.1 z.2.2 ∧ s.heap.objs.size + 1 ≤ z.2.1 := fun z hz => by
    obtain ⟨q1, q2⟩ := hcm _ z hz
    have a := x.cell z.1 z.2.1 (by show List.lookup _ (cellsFrom _ _ _) = _; rw [hcf]; exact q1)
    have b := x.above z.1 z.2.1 (by show _ ∈ cellsFrom _ _ _; rw [hcf]; exact List.mem_map.mpr ⟨z, hz, rfl⟩)
    refine ⟨?_, b⟩
    rw [← q2]
    exact a
  have S1 := ST.cells (lo := s.heap.objs.size + 1) (cf (s.heap.objs.size + 1)) S0 cellfact (by
      have := x.apart
      rw [show (newEnv (fnX (Hd.fName st) qual (Hd.fArgs st) (Hd.fBody st) (Hd.fScope st) [] dv .none .none pm none cdv ct).scope s.heap.objs.size _ (cellsFrom (s.heap.objs.size + 1) (Hd.fScope st).names []) _ _ _ none _).cells = cellsFrom (s.heap.objs.size + 1) (Hd.fScope st).names [] from rfl, hcf, List.pairwise_map] at this
      exact this) (Nat.lt_succ_self _)
    (fun a o e => Nat.lt_succ_of_lt (Heap.lt_size (of_hideAll _ e))) (fun y n a e w => Nat.lt_succ_of_lt (S.fresh e w))
  have hA : Room (c.A.deeper (envX qual (Hd.fScope st) s.heap.objs.size f cdv (cellsFrom (s.heap.objs.size + 1) (Hd.fScope st).names []))) b := by
    obtain ⟨r1, r2, r3⟩ := hr
    refine ⟨?_, ?_, r3⟩
    · show c.A.depth + 1 + 2 * b < recursionLimit; omega
    · show c.A.units + 3 + 8 * b < cLine; omega
  have hfin := (h _ _ _ hA (fun z hz => S.gone (Nat.le_trans (Nat.le_succ _) (cellfact z hz).2))).run _ S1
  rw [← hcf] at hfin
  refine wpAny_mono hfin (fun fl s' ⟨m', σ', T, q⟩ => ?_) (fun _ _ e => e.elim)
  exact ⟨m, σ', S.leave T, q⟩
end
theorem del_put {σ : AH} {x : Addr} {n : Node} (h : σ x = none) : del (put σ x n) x = σ := funext fun y => by
  by_cases q : y = x
  · subst q; rw [del_self, h]
  · rw [del_ne q, put_ne q]
structure XComp (c : Cx) (m : Lc) (σ : AH) (xv : Value) (elt : Expr) (x : PySem.Str) (px : Pos) (iter : Expr) (ifs : List Expr) (scope : Scope) (pos : Pos) (cl : List (PySem.Str × Addr)) (env : Env) (QA : Value → Lc → AH → Prop) : Prop where
  run : ∀ s, ST c m σ s → wpAny c.M c.A (pyIter xv) (fun it s2 => wpAny c.M c.A (newList []) (fun acc s3 => wpAny c.M c.A (newFunctionEnv scope env.globals cl [] env.qual none .none (some env)) (fun cenv s4 =>
    codeAny c.M c.A (.compStart (.ListComp elt [⟨.Name x px, iter, ifs, 0⟩] scope pos) 0 it acc { cenv with scope := relabel scope env }) (fun r s' => match r with
      | .ok _ => ∃ (o : Obj) (m' : Lc) (σ' : AH), σ' cenv.locals = none ∧ (∀ h : Heap, h.get? cenv.locals = some o → h.Ns cenv.locals m') ∧ ST c m (put σ' cenv.locals (.obj o)) s' ∧ QA acc m σ'
      | .error _ => False) s4) (fun _ _ => False) s3) (fun _ _ => False) s2) (fun _ _ => False) s
section
variable {α β : Type} {c : Cx} {m : Lc} {σ : AH} {env : Env}
theorem x_comp {elt iter : Expr} {x : PySem.Str} {px : Pos} {ifs : List Expr} {scope : Scope} {pos : Pos} {cl : List (PySem.Str × Addr)} {Q : Value → Lc → AH → Prop}
    (h : XV c m σ (eval iter env) fun xv m1 σ1 => XComp c m1 σ1 xv elt x px iter ifs scope pos cl env Q)
    (hclos : closureFor scope env = pure cl) (hkind : scope.kind = .function) (hnames : ∀ y ∈ scope.names, y.2 = .local → scope.names.lookup y.1 = some .local)
    (hs : ∀ x, foldedSetIterable iter env x = pure x := by intro _; rfl) : XV c m σ (eval (.ListComp elt [⟨.Name x px, iter, ifs, 0⟩] scope pos) env) Q := .mk fun s S => by
  rw [eval_ListComp]
  refine wpAny_comprehension_free (use := none) rfl hs hclos hkind hnames (wpAny_mono (h.run s S) (fun xv s1 ⟨m1, σ1, S1, q⟩ => wpAny_mono (q.run s1 S1) (fun it s2 q2 => wpAny_mono q2 (fun acc s3 q3 => wpAny_mono q3 (fun cenv s4 q4 => codeAny_mono q4 fun r s' z => ?_)
    fun _ _ e => e.elim) fun _ _ e => e.elim) fun _ _ e => e.elim) fun _ _ e => e)
  cases r with
  | error e => exact z.elim
  | ok f =>
    obtain ⟨o, m', σ', hn, hns, T, hQ⟩ := z
    refine ⟨m', hns _ (T.nodes cenv.locals _ (put_self _ _ _)), fun h' hs' => ?_⟩
    have L := T.lose (t := s'.toks) (put_self _ _ _) fun a o' w q => (hs'.2 a w).trans q
    rw [del_put hn] at L
    exact ⟨m1, σ', L, hQ⟩
theorem x_comp_assign {elt iter : Expr} {x y : PySem.Str} {px py : Pos} {ifs : List Expr} {scope : Scope} {pos spos : Pos} {cl : List (PySem.Str × Addr)} {Q : Flow → Lc → AH → Prop}
    (hsw : swapsWith (.ListComp elt [⟨.Name x px, iter, ifs, 0⟩] scope pos) (some (.Name y py)) spos.line env = pure true)
    (h : XV c m σ (eval iter env) fun xv m1 σ1 => XComp c m1 σ1 xv elt x px iter ifs scope pos cl env fun acc m' σ' => Q .next (upd m' y acc) σ')
    (hclos : closureFor scope env = pure cl) (hkind : scope.kind = .function) (hnames : ∀ y ∈ scope.names, y.2 = .local → scope.names.lookup y.1 = some .local)
    (hL : env.locals = c.L) (hl : env.kindOf y = some .local) (hk : env.scope.kind = .function)
    (hs : ∀ x, foldedSetIterable iter env x = pure x := by intro _; rfl) : XV c m σ (exec (.Assign [.Name y py] (.ListComp elt [⟨.Name x px, iter, ifs, 0⟩] scope pos) spos) env) Q := .mk fun s S => by
  rw [exec_Assign_Name_used _ _ _ _ hsw]
  refine wpAny_bind (wpAny_standAt (wpAny_bind ?_))
  show wpAny _ c.A (do let _ ← comprehension (.ListComp elt [⟨.Name x px, iter, ifs, 0⟩] scope pos) scope env _ (newList []) false (eval iter env) (some (assign (.Name y py) env))) _ _ s
  refine wpAny_bind (wpAny_mono (wpAny_comprehension_free (use := some (assign (.Name y py) env)) (Q := fun _ s' => ∃ m' σ', ST c m' σ' s' ∧ Q .next m' σ') rfl hs hclos hkind hnames
    (wpAny_mono (h.run s S) (fun xv s1 ⟨m1, σ1, S1, q⟩ => wpAny_mono (q.run s1 S1) (fun it s2 q2 => wpAny_mono q2 (fun acc s3 q3 => wpAny_mono q3 (fun cenv s4 q4 => codeAny_mono q4 fun r s' z => ?_)
    fun _ _ e => e.elim) fun _ _ e => e.elim) fun _ _ e => e.elim) fun _ _ e => e)) (fun _ s' hq => wpAny_pure (wpAny_pure hq)) fun _ _ e => e)
  cases r with
  | error e => exact z.elim
  | ok f =>
    obtain ⟨o, m', σ', hn, hns, T, hQ⟩ := z
    refine wpAny_mono ((x_assign_name (c := c) (m := m1) (σ := put σ' cenv.locals (.obj o)) (x_storeE (env := env) (x := y) (v := acc) (Q := fun _ m2 σ2 => m2 = upd m1 y acc ∧ σ2 = put σ' cenv.locals (.obj o)) ⟨rfl, rfl⟩ hL hl hk)).run s' T) (fun _ s'' ⟨m2, σ2, T2, q1, q2⟩ => ?_) fun _ _ e => e.elim
    subst q1 q2
    refine ⟨m', hns _ (T2.nodes cenv.locals _ (put_self _ _ _)), fun h' hs' => ?_⟩
    have L := T2.lose (t := s''.toks) (put_self _ _ _) fun a o' w q => (hs'.2 a w).trans q
    rw [del_put hn] at L
    exact ⟨_, σ', L, hQ⟩
noncomputable def xtests (ifs : List Expr) (env : Env) : Sem Bool := forIn ifs true fun c r => if r = true then do let ok ← isTrue c env (eval c env); pure (ForInStep.yield ok) else pure (ForInStep.yield r)
theorem x_tests_nil {Q : Bool → Lc → AH → Prop} (h : Q true m σ) : XV c m σ (xtests [] env) Q := .mk fun s S => wpAny_tests_nil ⟨m, σ, S, h⟩
theorem x_tests_one {t : Expr} {Q : Bool → Lc → AH → Prop} (h : XV c m σ (isTrue t env (eval t env)) Q) : XV c m σ (xtests [t] env) Q := .mk fun s S => wpAny_tests_one (h.run s S)
end
section
variable {α β : Type} {c : Cx} {m : Lc} {σ : AH} {env : Env}
theorem xcomp_go {S : Src} {elt iter : Expr} {x : PySem.Str} {px : Pos} {ifs : List Expr} {scope : Scope} {pos : Pos} {cl : List (PySem.Str × Addr)} {it acc : Addr} {R : Result → Shared → Prop} (I : Nat → List Value → AH → Prop)
    (hh : c.A.handled = none) (hn : S.n ≤ sizeLine) (hita : it ≠ acc)
    (hbn : ∀ l vs, S = .list l vs → l ≠ acc)
    (ins : ∀ k ys σ' σ'' a, I k ys σ' → (a = acc ∨ (a = it ∧ ∃ o, σ' it = some (.obj o))) → (∀ y, y ≠ a → σ'' y = σ' y) → I k ys σ'')
    (turn : ∀ k ys m' σ' v o, I k ys σ' → σ' acc = some (.list ys) → σ' it = some (.obj o) → S.base σ' → k < S.n → S.val k v →
      ∀ (Q1 : Value → Lc → AH → Prop) (Q2 : Lc → AH → Prop), (∀ y m3 σ3, σ3 acc = some (.list ys) → σ3 it = some (.obj o) → S.base σ3 → I (k + 1) (ys ++ [y]) σ3 → Q1 y m3 σ3) → (∀ m3 σ3, σ3 acc = some (.list ys) → σ3 it = some (.obj o) → S.base σ3 → I (k + 1) ys σ3 → Q2 m3 σ3) →
      XV c (upd m' x v) σ' (xtests ifs (compEnvC scope cl c.L env)) fun ok m2 σ2 => if ok = true then XV c m2 σ2 (eval elt (compEnvC scope cl c.L env)) Q1 else Q2 m2 σ2)
    (fin : ∀ m' ys σ' s r, ST c m' σ' s → I S.n ys σ' → σ' acc = some (.list ys) → R (.ok r) s) (hx : scope.names.lookup x = some .local) (hkind : scope.kind = .function)
    {o0 : Obj} (hI : I 0 [] σ) (ea0 : σ acc = some (.list [])) (ei0 : σ it = some (.obj o0)) (ho0 : S.ItO 0 o0) (hb0 : S.base σ) (s5 : Shared) (X5 : ST c m σ s5) : codeAny c.M c.A (.compLoop (.ListComp elt [⟨.Name x px, iter, ifs, 0⟩] scope pos) 0 (.ref it) (.ref acc) (compEnvC scope cl c.L env)) R s5 := by
  refine codeAny_compLoop_tests (fun n s => ∃ k ys m' σ' o, n = S.n - k ∧ k ≤ S.n ∧ ys.length ≤ k ∧ ST c m' σ' s ∧ I k ys σ' ∧ σ' acc = some (.list ys) ∧ σ' it = some (.obj o) ∧ S.ItO k o ∧ S.base σ') (fun n s hI => ?_) (S.n - 0)
    ⟨0, [], m, σ, o0, rfl, Nat.zero_le _, Nat.le_refl _, X5, hI, ea0, ei0, ho0, hb0⟩
  obtain ⟨k, ys, m', σ', o, rfl, hk, hys, Xs, hI, ea, ei, ho, hb'⟩ := hI
  by_cases q : k < S.n
  · refine wpAny_mono ((x_next (c := c) (Q := fun r m2 σ2 => ∃ v o', r = some v ∧ S.val k v ∧ S.ItO (k + 1) o' ∧ m2 = m' ∧ σ2 = put σ' it (.obj o')) ei ho hb' q (fun v o' h1 h2 => ⟨v, o', rfl, h1, h2, rfl, rfl⟩)).run s Xs)
      (fun r s1 ⟨m6, σ6, X6, v, o', hr, hv, ho', hm, hσ⟩ => ?_) fun _ _ e => e.elim
    subst hr hm hσ
    have I6 := ins k ys σ' (put σ' it (.obj o')) it hI (.inr ⟨rfl, o, ei⟩) fun y hy => put_ne hy
    have ea6 : put σ' it (.obj o') acc = some (.list ys) := by rw [put_ne (Ne.symm hita)]; exact ea
    have b6 : S.base (put σ' it (.obj o')) := Src.base_put hb' (Src.base_ne hb' (.inr ⟨o, ei⟩))
    refine wpAny_mono ((x_assign_name (c := c) (x_storeE (env := compEnvC scope cl c.L env) (x := x) (v := v) (Q := fun _ m7 σ7 => m7 = upd m6 x v ∧ σ7 = put σ' it (.obj o')) ⟨rfl, rfl⟩ rfl (lookup_relabel_local hx) hkind)).run s1 X6)
      (fun _ s2' ⟨m7, σ7, X7, q1, q2⟩ => ?_) fun _ _ e => e.elim
    subst q1 q2
    refine wpAny_mono ((turn k ys m6 _ v o' I6 ea6 (put_self _ _ _) b6 q hv (fun y m3 σ3 => σ3 acc = some (.list ys) ∧ σ3 it = some (.obj o') ∧ S.base σ3 ∧ I (k + 1) (ys ++ [y]) σ3) (fun m3 σ3 => σ3 acc = some (.list ys) ∧ σ3 it = some (.obj o') ∧ S.base σ3 ∧ I (k + 1) ys σ3)
      (fun _ _ _ a b c d => ⟨a, b, c, d⟩) (fun _ _ a b c d => ⟨a, b, c, d⟩)).run s2' X7) (fun ok s8 ⟨m8, σ8, X8, z⟩ => ?_) fun _ _ e => e.elim
    cases ok with
    | false =>
      have z : σ8 acc = some (.list ys) ∧ σ8 it = some (.obj o') ∧ S.base σ8 ∧ I (k + 1) ys σ8 := z
      exact ⟨S.n - (k + 1), by omega, k + 1, ys, m8, σ8, o', rfl, q, by omega, X8, z.2.2.2, z.1, z.2.1, ho', z.2.2.1⟩
    | true =>
      refine wpAny_mono (z.run s8 X8) (fun y s9 ⟨m9, σ9, X9, z⟩ => ?_) fun _ _ e => e.elim
      refine wpAny_mono ((x_append (c := c) (v := y) (Q := fun _ m2 σ2 => m2 = m9 ∧ σ2 = put σ9 acc (.list (ys ++ [y]))) z.1 (by omega) ⟨rfl, rfl⟩).run s9 X9) (fun _ s10 ⟨m10, σ10, X10, q1, q2⟩ => ?_) fun _ _ e => e.elim
      subst q1 q2
      exact ⟨S.n - (k + 1), by omega, k + 1, ys ++ [y], m10, _, o', rfl, q, by rw [List.length_append, List.length_singleton]; omega, X10, ins (k + 1) _ σ9 _ acc z.2.2.2 (.inl rfl) (fun y hy => put_ne hy), put_self _ _ _, by rw [put_ne hita]; exact z.2.1, ho', Src.base_put z.2.2.1 hbn⟩
  · obtain rfl : k = S.n := by omega
    refine wpAny_mono ((x_next_end (c := c) (Q := fun r m2 σ2 => r = none ∧ m2 = m' ∧ σ2 = del σ' it) ei ho hb' hh ⟨rfl, rfl, rfl⟩).run s Xs) (fun r s1 ⟨m6, σ6, X6, hr, hm, hσ⟩ => ?_) fun _ _ e => e.elim
    subst hr hm hσ
    exact fin m6 ys _ s1 _ X6 (ins _ ys σ' _ it hI (.inr ⟨rfl, o, ei⟩) fun y hy => del_ne hy) ((del_ne (Ne.symm hita)).trans ea)
theorem xcomp_loop {S : Src} {xv : Value} {elt iter : Expr} {x : PySem.Str} {px : Pos} {ifs : List Expr} {scope : Scope} {pos : Pos} {cl : List (PySem.Str × Addr)} {QA : Value → Lc → AH → Prop} (I : Addr → Nat → List Value → AH → Prop)
    (hs : S.Of xv σ) (hh : c.A.handled = none) (hn : S.n ≤ sizeLine)
    (h0 : ∀ acc σ', σ acc = none → Ext σ σ' → I acc 0 [] σ')
    (ins : ∀ acc k ys σ' σ'' a, I acc k ys σ' → σ acc = none → σ a = none → (a = acc ∨ ∃ o, σ' a = some (.obj o)) → (∀ y, y ≠ a → σ'' y = σ' y) → I acc k ys σ'')
    (turn : ∀ (c' : Cx) it acc k ys m' σ' v o, (c'.A = c.A ∧ (∀ a o, c.h₀.get? a = some o → c'.h₀.get? a = some o) ∧ c'.w = c.w) → σ it = none → σ acc = none → I acc k ys σ' → σ' acc = some (.list ys) → σ' it = some (.obj o) → S.base σ' → k < S.n → S.val k v →
      ∀ (Q1 : Value → Lc → AH → Prop) (Q2 : Lc → AH → Prop), (∀ y m3 σ3, σ3 acc = some (.list ys) → σ3 it = some (.obj o) → S.base σ3 → I acc (k + 1) (ys ++ [y]) σ3 → Q1 y m3 σ3) → (∀ m3 σ3, σ3 acc = some (.list ys) → σ3 it = some (.obj o) → S.base σ3 → I acc (k + 1) ys σ3 → Q2 m3 σ3) →
      XV c' (upd m' x v) σ' (xtests ifs (compEnvC scope cl c'.L env)) fun ok m2 σ2 => if ok = true then XV c' m2 σ2 (eval elt (compEnvC scope cl c'.L env)) Q1 else Q2 m2 σ2)
    (fin : ∀ acc ys σ', σ acc = none → I acc S.n ys σ' → σ' acc = some (.list ys) → QA (.ref acc) m σ')
    (hcell : ∀ y ∈ scope.names, y.2 ≠ .cell) (hkind : scope.kind = .function) (hx : scope.names.lookup x = some .local) : XComp c m σ xv elt x px iter ifs scope pos cl env QA := .mk fun s X => by
  have hb : S.base σ := by
    cases S with
    | list l vs => exact hs.2
    | range a n => trivial
  refine wpAny_mono ((x_iter (c := c) (m := m) (Q := fun w m' σ' => ∃ it o, w = .ref it ∧ σ it = none ∧ S.ItO 0 o ∧ m' = m ∧ σ' = put σ it (.obj o)) hs (fun it o h1 h2 => ⟨it, o, rfl, h1, h2, rfl, rfl⟩)).run s X) (fun w s2 ⟨m2, σ2, X2, it, o, hw, h1, h2, h3, h4⟩ => ?_) fun _ _ e => e
  subst hw h3 h4
  refine wpAny_mono ((x_newlist (c := c) (m := m2) (vs := []) (Q := fun w m' σ' => ∃ acc, w = .ref acc ∧ put σ it (.obj o) acc = none ∧ m' = m2 ∧ σ' = put (put σ it (.obj o)) acc (.list [])) (Nat.zero_le _) (fun acc h => ⟨acc, rfl, h, rfl, rfl⟩)).run s2 X2)
    (fun w s3 ⟨m3, σ3, X3, acc, hw, g1, g2, g3⟩ => ?_) fun _ _ e => e
  subst hw g2 g3
  have hita : it ≠ acc := fun z => by rw [← z, put_self] at g1; cases g1
  have hacc : σ acc = none := by rw [put_ne (Ne.symm hita)] at g1; exact g1
  have E3 : Ext σ (put (put σ it (.obj o)) acc (.list [])) := ((Ext.refl σ).put h1).put hacc
  have e_it : put (put σ it (.obj o)) acc (.list []) it = some (.obj o) := by rw [put_ne hita, put_self]
  have e_acc : put (put σ it (.obj o)) acc (.list []) acc = some (.list []) := put_self _ _ _
  have b3 : S.base (put (put σ it (.obj o)) acc (.list [])) := Src.base_put (Src.base_put hb (Src.base_ne hb (.inl h1))) (fun l vs q z => by subst z; subst q; rw [show σ l = _ from hb] at hacc; cases hacc)
  have I3 := h0 acc _ hacc E3
  generalize hσ3 : put (put σ it (.obj o)) acc (.list []) = σ3 at X3 E3 e_it e_acc b3 I3
  refine wpAny_newFunctionEnv hcell (by intro y hy; simp at hy) (fun h1' hns hsb => ?_) hkind
  have keeps : ∀ a o, s3.heap.get? a = some o → h1'.get? a = some o := fun a o e => (hsb.2 a (Nat.ne_of_lt (Heap.lt_size e))).trans (Heap.get?_push_of_some _ e)
  have X4 := X3.enter (A' := c.A) (t := s3.toks + ([] : List (PySem.Str × Value)).length) hns keeps
  have hbn : ∀ l vs, S = .list l vs → l ≠ acc := fun l vs q z => by subst z; subst q; rw [show σ l = _ from hb] at hacc; cases hacc
  have loop : ∀ s5 m5, ST { c with A := c.A, h₀ := hideAll s3.heap (loosen c.h₀ c.L s3.heap), L := s3.heap.objs.size } m5 σ3 s5 →
      codeAny c.M c.A (.compLoop (.ListComp elt [⟨.Name x px, iter, ifs, 0⟩] scope pos) 0 (.ref it) (.ref acc) (compEnvC scope cl s3.heap.objs.size env)) (fun r s' => match r with
        | .ok _ => ∃ (o : Obj) (m' : Lc) (σ' : AH), σ' s3.heap.objs.size = none ∧ (∀ h : Heap, h.get? s3.heap.objs.size = some o → h.Ns s3.heap.objs.size m') ∧ ST c m3 (put σ' s3.heap.objs.size (.obj o)) s' ∧ QA (.ref acc) m3 σ'
        | .error _ => False) s5 := fun s5 m5 X5 => by
    refine xcomp_go (c := { c with A := c.A, h₀ := hideAll s3.heap (loosen c.h₀ c.L s3.heap), L := s3.heap.objs.size }) (I acc) hh hn hita hbn ?_ ?_ ?_ hx hkind I3 e_acc e_it h2 b3 s5 X5
    · exact fun k ys σ' σ'' a h p e => ins acc k ys σ' σ'' a h hacc (p.elim (fun p => p ▸ hacc) fun p => p.1 ▸ h1) (p.elim .inl fun p => .inr (p.1 ▸ p.2)) e
    · exact fun k ys m' σ' v o => turn _ it acc k ys m' σ' v o ⟨rfl, fun a o e => hideAll_get _ (X3.f.keep a o e) (fun q => by rw [(mem_loosen.mp q).2.2] at e; cases e), rfl⟩ h1 hacc
    · intro m' ys σ' s r X i ea
      obtain ⟨oC, f1, f2, f3⟩ := X3.leaveN X
      exact ⟨oC, m', _, f1, f2, f3, fin acc ys _ hacc i ea⟩
  refine codeAny_compStart_list (loop _ _ X4) (wpAny_mono ((x_iter_self (c := { c with A := c.A, h₀ := hideAll s3.heap (loosen c.h₀ c.L s3.heap), L := s3.heap.objs.size }) (S := S) (Q := fun w m' σ' => w = .ref it ∧ σ' = σ3) e_it h2 ⟨rfl, rfl⟩).run _ X4) (fun w s6 ⟨m6, σ6, X6, q1, q2⟩ => ?_) fun _ _ e => e.elim)
  subst q1 q2
  exact loop _ _ X6
end
section
variable {α β : Type} {c : Cx} {m : Lc} {σ : AH} {env : Env}
/-- a loop whose invariant may speak of the iterator's address -/
theorem xf_loop2 {S : Src} {v : Value} {target : Expr} {body orelse : List Stmt} {Q : Flow → Lc → AH → Prop} (I : Addr → Nat → Lc → AH → Prop) (hs : S.Of v σ) (hh : c.A.handled = none) (h0 : ∀ it, σ it = none → I it 0 m σ)
    (ins : ∀ it k m' σ' σ'', σ it = none → I it k m' σ' → (σ' it = none ∨ ∃ o, σ' it = some (.obj o)) → (∀ y, y ≠ it → σ'' y = σ' y) → I it k m' σ'')
    (turn : ∀ it k m' σ' v o, σ it = none → I it k m' σ' → σ' it = some (.obj o) → S.base σ' → k < S.n → S.val k v →
      ∀ Q0 : Flow → Lc → AH → Prop, (∀ m3 σ3, I it (k + 1) m3 σ3 → σ3 it = some (.obj o) → S.base σ3 → Q0 .next m3 σ3) → (∀ v m3 σ3, Q (.ret v) m3 σ3 → Q0 (.ret v) m3 σ3) →
      XV c m' σ' (assign target env v) fun _ m2 σ2 => XV c m2 σ2 (execs body env) Q0)
    (fin : ∀ it m' σ', I it S.n m' σ' → XV c m' σ' (execs orelse env) Q)
    (ht : ∀ it v, letOwnedTupleGo target it v = pure () := by intro _ _; rfl) : XFor c m σ v target body orelse env Q := .mk fun s X => by
  have hb : S.base σ := by
    cases S with
    | list l vs => exact hs.2
    | range a n => trivial
  refine wpAny_mono ((x_iter (c := c) (m := m) (Q := fun w m' σ' => ∃ it o, w = .ref it ∧ σ it = none ∧ S.ItO 0 o ∧ m' = m ∧ σ' = put σ it (.obj o)) hs (fun it o h1 h2 => ⟨it, o, rfl, h1, h2, rfl, rfl⟩)).run s X) (fun w s2 ⟨m2, σ2, X2, it, o, hw, h1, h2, h3, h4⟩ => ?_) fun _ _ e => e
  subst hw h3 h4
  refine codeAny_forLoop (fun n s => ∃ k m' σ' o, n = S.n - k ∧ k ≤ S.n ∧ ST c m' σ' s ∧ I it k m' σ' ∧ σ' it = some (.obj o) ∧ S.ItO k o ∧ S.base σ') (fun n s hI => ?_) (S.n - 0)
    ⟨0, m2, _, o, rfl, Nat.zero_le _, X2, ins it 0 m2 σ _ h1 (h0 it h1) (.inl h1) fun y hy => put_ne hy, put_self _ _ _, h2, Src.base_put hb (Src.base_ne hb (.inl h1))⟩ (ht (.ref it))
  obtain ⟨k, m', σ', o, rfl, hk, Xs, hI, e, ho, hb'⟩ := hI
  by_cases q : k < S.n
  · refine wpAny_mono ((x_next (Q := fun r m2 σ2 => ∃ v o', r = some v ∧ S.val k v ∧ S.ItO (k + 1) o' ∧ m2 = m' ∧ σ2 = put σ' it (.obj o')) e ho hb' q (fun v o' h1 h2 => ⟨v, o', rfl, h1, h2, rfl, rfl⟩)).run s Xs)
      (fun r s1 ⟨m2, σ2, X2, v, o', hr, hv, ho', hm, hσ⟩ => ?_) fun _ _ e => e.elim
    subst hr hm hσ
    have I2 := ins it k m2 σ' (put σ' it (.obj o')) h1 hI (.inr ⟨o, e⟩) fun y hy => put_ne hy
    refine wpAny_mono ((turn it k m2 _ v o' h1 I2 (put_self _ _ _) (Src.base_put hb' (Src.base_ne hb' (.inr ⟨o, e⟩))) q hv (fun f m3 σ3 => match f with
        | .next | .cont => I it (k + 1) m3 σ3 ∧ σ3 it = some (.obj o') ∧ S.base σ3
        | .brk => False
        | .ret v => Q (.ret v) m3 σ3) (fun _ _ a b c => ⟨a, b, c⟩) (fun _ _ _ a => a)).run s1 X2) (fun _ s2 ⟨m3, σ3, X3, z⟩ => ?_) fun _ _ e => e.elim
    refine wpAny_mono (z.run s2 X3) (fun f s3 ⟨m4, σ4, X4, z⟩ => ?_) fun _ _ e => e.elim
    cases f with
    | next => exact ⟨S.n - (k + 1), by omega, k + 1, m4, σ4, o', rfl, q, X4, z.1, z.2.1, ho', z.2.2⟩
    | cont => exact ⟨S.n - (k + 1), by omega, k + 1, m4, σ4, o', rfl, q, X4, z.1, z.2.1, ho', z.2.2⟩
    | brk => exact z.elim
    | ret v => exact ⟨m4, σ4, X4, z⟩
  · obtain rfl : k = S.n := by omega
    refine wpAny_mono ((x_next_end (Q := fun r m2 σ2 => r = none ∧ m2 = m' ∧ σ2 = del σ' it) e ho hb' hh ⟨rfl, rfl, rfl⟩).run s Xs) (fun r s1 ⟨m2, σ2, X2, hr, hm, hσ⟩ => ?_) fun _ _ e => e.elim
    subst hr hm hσ
    exact wpAny_mono ((fin it m2 _ (ins it _ m2 σ' _ h1 hI (.inr ⟨o, e⟩) fun y hy => del_ne hy)).run s1 X2) (fun f s2 z => z) fun _ _ e => e.elim
/-- a def with cell variables runs -/
theorem runsC {b : Nat} {f : Addr} {st : Stmt} {qual : PySem.Str} {dv pm cdv ct : Value} {vs : List Value} {kw : List (PySem.Str × Value)} {binds : List (PySem.Str × Value)} {Q : Value → AH → Prop} (cf : Nat → List (PySem.Str × Addr × Option Value))
    (hf : ∀ P, (Hd.KK P).lookup f = some (Hd.fnO st qual [] dv pm cdv ct)) (hcd : ∀ P, codeIn (Hd.KK P) cdv qual = true)
    (hb : ∀ P (s : Shared), (Hd.KK P).In s.heap → BindsTo s (fnX (Hd.fName st) qual (Hd.fArgs st) (Hd.fBody st) (Hd.fScope st) [] dv .none .none pm none cdv ct) ⟨vs, kw⟩ binds)
    (hkind : ∀ n, ∀ x ∈ binds, (Hd.fScope st).names.lookup x.1 = some .local ∨ ((Hd.fScope st).names.lookup x.1 = some .cell ∧ ((cellsFrom n (Hd.fScope st).names []).lookup x.1).isSome = true))
    (hcf : ∀ n, cellsFrom n (Hd.fScope st).names [] = (cf n).map fun x => (x.1, x.2.1))
    (hcm : ∀ n, ∀ x ∈ cf n, ((cf n).map fun x => (x.1, x.2.1)).lookup x.1 = some x.2.1 ∧ bindC (fun y => (Hd.fScope st).names.lookup y) binds (fun _ => none) x.1 = x.2.2)
    (hk : (Hd.fScope st).isCoroutine = false ∧ (Hd.fScope st).isGenerator = false ∧ (Hd.fScope st).kind = .function)
    (h : ∀ c : Cx, Room c.A b → (∀ x ∈ cf (c.L + 1), σ x.2.1 = none) → XV c (bindL (fun y => (Hd.fScope st).names.lookup y) binds fun _ => none) (putC σ (cf (c.L + 1)))
      (execs (Hd.fBody st) (envX qual (Hd.fScope st) c.L f cdv ((cf (c.L + 1)).map fun x => (x.1, x.2.1)))) fun fl _ σ' => Q (retv fl) σ') : Runs (b + 1) σ f vs kw Q :=
  fun c m r => xc_callC cf hf hcd hb hkind hcf hcm hk r fun A' h' L' r' hn => x_mono (h { c with A := A', h₀ := h', L := L' } r' hn) fun _ _ _ q => ⟨rfl, q⟩
end
inductive TextsAt (σ : AH) (ts : Addr) (texts : List (List Int)) : Prop
  | mk (tv : List Value) (h1 : σ ts = some (.list tv)) (h2 : tv.length = texts.length) (h3 : ∀ (k : Nat) t, texts[k]? = some t → ∃ a, tv[k]? = some (.ref a) ∧ TextAt σ a t) : TextsAt σ ts texts
theorem TextsAt.ext {σ σ' : AH} {ts : Addr} {texts : List (List Int)} (h : TextsAt σ ts texts) (e : Ext σ σ') : TextsAt σ' ts texts := by
  obtain ⟨tv, h1, h2, h3⟩ := h
  refine ⟨tv, e.some h1, h2, fun k t hk => ?_⟩
  obtain ⟨a, h4, h5⟩ := h3 k t hk
  exact ⟨a, h4, h5.ext e⟩
/-- the postings of one kind in one text -/
noncomputable def inText (kind : Int) (text : List Int) (p : Nat) : Bool := decide (p < text.length) && (kind == 3 || text.getD p 0 == kind)
noncomputable def listR (kind : Int) (text : List Int) : Strm := fun p => if 0 ≤ p ∧ inText kind text p.toNat = true then some (wgt text p.toNat) else none
noncomputable def placesOf (kind : Int) (text : List Int) (k : Nat) : List Nat := (List.range k).filter (inText kind text)
theorem placesOf_succ (kind : Int) (text : List Int) (k : Nat) : placesOf kind text (k + 1) = placesOf kind text k ++ (if inText kind text k then [k] else []) := by
  unfold placesOf
  rw [List.range_succ, List.filter_append]
  cases q : inText kind text k <;> simp [q]
theorem range_sorted (n : Nat) : (List.range n).Pairwise (· < ·) := List.pairwise_lt_range
theorem placesOf_lt {kind : Int} {text : List Int} {n : Nat} {j k p q : Nat} (h : j < k) (hp : (placesOf kind text n)[j]? = some p) (hq : (placesOf kind text n)[k]? = some q) : p < q := by
  have := List.pairwise_iff_getElem.mp ((range_sorted n).filter (inText kind text))
  obtain ⟨h1, rfl⟩ := List.getElem?_eq_some_iff.mp hp
  obtain ⟨h2, rfl⟩ := List.getElem?_eq_some_iff.mp hq
  exact this j k h1 h2 h
theorem placesOf_mem {kind : Int} {text : List Int} {p : Nat} : p ∈ placesOf kind text text.length ↔ inText kind text p = true := by
  unfold placesOf
  rw [List.mem_filter, List.mem_range]
  exact ⟨fun h => h.2, fun h => ⟨of_decide_eq_true (Bool.and_eq_true_iff.mp h).1, h⟩⟩
theorem listR_spec (kind : Int) (text : List Int) (p v : Int) : listR kind text p = some v ↔
    ∃ k : Nat, ((placesOf kind text text.length).map fun (i : Nat) => (i : Int))[k]? = some p ∧ ((placesOf kind text text.length).map fun i => wgt text i)[k]? = some v := by
  unfold listR
  constructor
  · intro h
    split at h
    · rename_i q
      cases h
      obtain ⟨k, hk⟩ := List.mem_iff_getElem?.mp (placesOf_mem.mpr q.2)
      exact ⟨k, by rw [List.getElem?_map, hk]; exact congrArg some (Int.toNat_of_nonneg q.1), by rw [List.getElem?_map, hk]; rfl⟩
    · cases h
  · rintro ⟨k, h1, h2⟩
    rw [List.getElem?_map] at h1 h2
    rcases q : (placesOf kind text text.length)[k]? with _ | i
    · rw [q] at h1; cases h1
    · rw [q] at h1 h2
      cases h1
      cases h2
      rw [if_pos ⟨Int.natCast_nonneg _, by rw [Int.toNat_natCast]; exact placesOf_mem.mp (List.mem_of_getElem? q)⟩]
      rw [Int.toNat_natCast]
/-- the texts one behind the other: the first at 20, the second at 30 -/
noncomputable def textsR (kind : Int) (texts : List (List Int)) : Strm := fun p => (List.range texts.length).findSome? fun k => listR kind (texts.getD k []) (p - (20 + 10 * (k : Int)))
theorem lrep_noobj {σ : AH} {x : Addr} {R : Strm} {fp : Addr → Prop} (h : LRep σ x R fp) {y : Addr} (hy : fp y) (o : Obj) : σ y ≠ some (.obj o) := by
  obtain ⟨l, w, vs, vw, ps, ws, i, t, e, el, ew, _, _, _, _, _, _, _, rfl⟩ := h
  rcases hy with rfl | rfl | rfl
  · rw [e]; exact fun z => nomatch z
  · rw [el]; exact fun z => nomatch z
  · rw [ew]; exact fun z => nomatch z
theorem placesOf_len (kind : Int) (text : List Int) (k : Nat) : (placesOf kind text k).length ≤ k := by
  unfold placesOf
  exact Nat.le_trans (List.length_filter_le _ _) (by rw [List.length_range]; exact Nat.le_refl _)
theorem listR_range {kind : Int} {text : List Int} {p v : Int} (h : listR kind text p = some v) : 0 ≤ p ∧ p < text.length := by
  unfold listR at h
  split at h
  · rename_i q
    have := of_decide_eq_true (Bool.and_eq_true_iff.mp q.2).1
    omega
  · cases h
theorem textsR_iff {kind : Int} {texts : List (List Int)} (hl : ∀ text ∈ texts, text.length ≤ 5) (p v : Int) : textsR kind texts p = some v ↔ ∃ k, k < texts.length ∧ listR kind (texts.getD k []) (p - (20 + 10 * (k : Int))) = some v := by
  have hl' : ∀ k, k < texts.length → (texts.getD k []).length ≤ 5 := fun k hk => by
    rw [List.getD_eq_getElem?_getD, List.getElem?_eq_getElem hk]; exact hl _ (List.getElem_mem hk)
  unfold textsR
  constructor
  · intro h
    obtain ⟨k, hk, h⟩ := List.exists_of_findSome?_eq_some h
    exact ⟨k, List.mem_range.mp hk, h⟩
  · rintro ⟨k, hk, h⟩
    rcases q : (List.range texts.length).findSome? fun k => listR kind (texts.getD k []) (p - (20 + 10 * (k : Int))) with _ | v'
    · rw [List.findSome?_eq_none_iff] at q
      rw [q k (List.mem_range.mpr hk)] at h; cases h
    · obtain ⟨j, hj, h'⟩ := List.exists_of_findSome?_eq_some q
      have hj := List.mem_range.mp hj
      have a1 := listR_range h
      have a2 := listR_range h'
      have b1 := hl' k hk
      have b2 := hl' j hj
      obtain rfl : j = k := by omega
      rw [h] at h'
      exact h'.symm
structure I1219 (σ : AH) (ll ol L : Addr) (kind : Int) (t : Tok) (texts : List (List Int)) (it : Addr) (k : Nat) (m' : Lc) (σ' : AH) (v0 : Option Value) (as : Nat → Addr) (fk : Nat → Addr → Prop) (lv ov : List Value) : Prop where
  E : Ext σ σ'
  m1 : m' "lists" = some (.ref ll)
  m2 : m' "offsets" = some (.ref ol)
  e1 : σ' (L + 1 + 1) = some (.cell v0)
  e2 : σ' (L + 1) = some (.cell (some (.int kind t)))
  e3 : σ' ll = some (.list lv)
  l3 : lv.length = k
  a3 : ∀ j, j < k → lv[j]? = some (.ref (as j))
  e4 : σ' ol = some (.list ov)
  l4 : ov.length = k
  a4 : ∀ j, j < k → ∃ u, ov[j]? = some (.int (20 + 10 * (j : Nat)) u)
  k1 : ∀ j, j < k → LRep σ' (as j) (listR kind (texts.getD j [])) (fk j)
  k2 : ∀ i j y, i < k → j < k → fk i y → fk j y → i = j
  k3 : ∀ j y, j < k → fk j y → σ y = none ∧ ¬ (y = ll ∨ y = ol ∨ y = L + 1 ∨ y = L + 1 + 1 ∨ y = it)
noncomputable def V1219 (σ : AH) (ll ol L : Addr) (kind : Int) (t : Tok) (texts : List (List Int)) (it : Addr) (k : Nat) (m' : Lc) (σ' : AH) : Prop := ∃ v0 as fk lv ov, I1219 σ ll ol L kind t texts it k m' σ' v0 as fk lv ov
inductive NewRep (n : Nat) (σ : AH) (R : Strm) (v : Value) (σ' : AH) : Prop
  | mk (x : Addr) (fp : Addr → Prop) (h1 : v = .ref x) (h2 : Rep n σ' x R fp) (h3 : (∀ y, fp y → σ y = none)) (h4 : Ext σ σ') : NewRep n σ R v σ'
section
variable {σ : AH}
theorem r1219 {ts : Addr} {texts : List (List Int)} {kind : Int} {t : Tok} (hT : TextsAt σ ts texts) (hlen : texts.length ≤ 2) (hl : ∀ text ∈ texts, text.length ≤ 5) :
    Runs 9 σ 1219 [.ref ts, .int kind t] [] (NewRep 0 σ (textsR kind texts)) := by
  refine runsC (binds := [(S "texts", .ref ts), (S "kind", .int kind t)]) (fun n => [(S "text", n + 1, none), (S "kind", n, some (.int kind t))]) f1219 c1219 (fun P s X => .of_eq (by rfl)) (fun n x hx => ?_) (fun n => by rfl) (fun n x hx => ?_) (by exact ⟨rfl, rfl, rfl⟩) fun c r hc => ?_
  · rcases List.mem_cons.mp hx with rfl | hx
    · exact .inl (by rfl)
    · rcases List.mem_singleton.mp hx with rfl
      exact .inr ⟨by rfl, by rfl⟩
  · rcases List.mem_cons.mp hx with rfl | hx
    · exact ⟨by rfl, by rfl⟩
    · rcases List.mem_singleton.mp hx with rfl
      exact ⟨by rfl, by rfl⟩
  have ht0 : σ (c.L + 1 + 1) = none := hc (S "text", c.L + 1 + 1, none) (List.mem_cons_self ..)
  have hk0 : σ (c.L + 1) = none := hc (S "kind", c.L + 1, some (.int kind t)) (List.mem_cons_of_mem _ (List.mem_cons_self ..))
  clear hc
  have E0 : Ext σ (putC σ [(S "text", c.L + 1 + 1, none), (S "kind", c.L + 1, some (.int kind t))]) := ((Ext.refl σ).put hk0).put ht0
  have eT : putC σ [(S "text", c.L + 1 + 1, none), (S "kind", c.L + 1, some (.int kind t))] (c.L + 1 + 1) = some (.cell none) := put_self _ _ _
  have eK : putC σ [(S "text", c.L + 1 + 1, none), (S "kind", c.L + 1, some (.int kind t))] (c.L + 1) = some (.cell (some (.int kind t))) := (put_ne (Nat.ne_of_lt (Nat.lt_succ_self _))).trans (put_self _ _ _)
  generalize putC σ [(S "text", c.L + 1 + 1, none), (S "kind", c.L + 1, some (.int kind t))] = σ1 at E0 eT eK
  repeat walk_at "g"
  refine x_list ?_
  repeat walk_at "g"
  refine x_newlist (by decide) fun ll hll => ?_
  repeat walk_at "g"
  refine x_list ?_
  repeat walk_at "g"
  refine x_newlist (by decide) fun ol hol => ?_
  repeat walk_at "g"
  refine x_for ?_
  repeat walk_at "g"
  have hne1 : ll ≠ ol := fun z => by rw [← z, put_self] at hol; cases hol
  have hol1 : σ1 ol = none := by rw [put_ne (Ne.symm hne1)] at hol; exact hol
  have hlt : ll ≠ c.L + 1 + 1 := fun z => by rw [z, eT] at hll; cases hll
  have hlk : ll ≠ c.L + 1 := fun z => by rw [z, eK] at hll; cases hll
  have hot : ol ≠ c.L + 1 + 1 := fun z => by rw [z, eT] at hol1; cases hol1
  have hok : ol ≠ c.L + 1 := fun z => by rw [z, eK] at hol1; cases hol1
  have htk : c.L + 1 + 1 ≠ c.L + 1 := Nat.ne_of_gt (Nat.lt_succ_self _)
  have E2 : Ext σ1 (Mine.put (Mine.put σ1 ll (.list [])) ol (.list [])) := ((Ext.refl σ1).put hll).put hol1
  have E3 := E0.trans E2
  obtain ⟨tv, hts, htl, hta⟩ := hT
  refine xf_loop2 (S := .list ts tv) (V1219 σ ll ol c.L kind t texts)
    ⟨rfl, E3.some hts⟩ r.2.2 (fun it hit => ⟨none, fun _ => 0, fun _ _ => False, [], [], E3, rfl, rfl, E2.some eT, E2.some eK, by rw [put_ne hne1, put_self], rfl, fun j h => absurd h (Nat.not_lt_zero _), put_self _ _ _, rfl, fun j h => absurd h (Nat.not_lt_zero _),
      fun j h => absurd h (Nat.not_lt_zero _), fun i j y h => absurd h (Nat.not_lt_zero _), fun j y h => absurd h (Nat.not_lt_zero _)⟩) ?_ ?_ ?_
  · rintro it k m' σ' σ'' h1 ⟨v0, as, fk, lv, ov, i0⟩ h2 h3
    have tt : ∀ y, y = c.L + 1 + 1 ∨ y = c.L + 1 → y ≠ it := by
      rintro y (rfl | rfl) rfl
      · rw [i0.e1] at h2; rcases h2 with h2 | ⟨o, h2⟩ <;> cases h2
      · rw [i0.e2] at h2; rcases h2 with h2 | ⟨o, h2⟩ <;> cases h2
    exact ⟨v0, as, fk, lv, ov, i0.E.ins (E3.none h1) h3, i0.m1, i0.m2, (h3 _ (tt _ (.inl rfl))).trans i0.e1, (h3 _ (tt _ (.inr rfl))).trans i0.e2, ins_list i0.e3 h2 h3, i0.l3, i0.a3, ins_list i0.e4 h2 h3, i0.l4, i0.a4,
      fun j hj => kid_list.loc (i0.k1 j hj) fun y hy => h3 y fun z => (i0.k3 j y hj hy).2 (.inr (.inr (.inr (.inr z)))), i0.k2, i0.k3⟩
  · rintro it k m' σ' v o h1 ⟨v0, as, fk, lv, ov, i0⟩ h2 hb hk hv Q0 hN _
    have E := i0.E
    have m1 := i0.m1
    have m2 := i0.m2
    have e1 := i0.e1
    have l3 := i0.l3
    have l4 := i0.l4
    have hk : k < tv.length := hk
    have hv : tv[k]? = some v := hv
    have hkt : k < texts.length := by omega
    obtain ⟨a, ha, hta'⟩ := hta k _ (List.getElem?_eq_getElem hkt)
    obtain rfl : v = .ref a := by rw [ha] at hv; cases hv; rfl
    have hl5 := hl _ (List.getElem_mem hkt)
    have hgd : texts.getD k [] = texts[k] := by rw [List.getD_eq_getElem?_getD, List.getElem?_eq_getElem hkt]; rfl
    generalize texts[k] = text at hta' hl5 hgd
    refine x_assign_name ?_
    refine x_storeC (by rfl) e1 ?_
    have Ea : Ext σ (Mine.put σ' (c.L + 1 + 1) (.cell (some (.ref a)))) := E.put ht0
    obtain ⟨xv, ex, ix⟩ := hta'.ext Ea
    have eTa : Mine.put σ' (c.L + 1 + 1) (.cell (some (.ref a))) (c.L + 1 + 1) = some (.cell (some (.ref a))) := put_self _ _ _
    have others : ∀ y n, y ≠ c.L + 1 + 1 → σ' y = some n → Mine.put σ' (c.L + 1 + 1) (.cell (some (.ref a))) y = some n := fun y n q e => (put_ne q).trans e
    have e2 := others _ _ (Ne.symm htk) i0.e2
    have e3 := others _ _ hlt i0.e3
    have e4 := others _ _ hot i0.e4
    have hit : it ≠ c.L + 1 + 1 := fun z => by rw [z, e1] at h2; cases h2
    have h2 := others _ _ hit h2
    have k1 : ∀ j, j < k → LRep (Mine.put σ' (c.L + 1 + 1) (.cell (some (.ref a)))) (as j) (listR kind (texts.getD j [])) (fk j) := fun j hj => kid_list.loc (i0.k1 j hj) fun y hy => put_ne fun z => (i0.k3 j y hj hy).2 (.inr (.inr (.inr (.inl z))))
    have hbL : (Mine.put σ' (c.L + 1 + 1) (.cell (some (.ref a)))) ts = some (.list tv) := Ea.some hts
    clear hb e1 others E
    generalize Mine.put σ' (c.L + 1 + 1) (.cell (some (.ref a))) = σa at *
    refine x_execs (by with_unfolding_all rfl) ?_
    refine x_comp_assign (cl := [(S "text", c.L + 1 + 1), (S "kind", c.L + 1)]) (by with_unfolding_all rfl) ?_ (by with_unfolding_all rfl) (by rfl) (by decide) rfl (by rfl) (by rfl)
    repeat walk_at "g"
    refine x_builtin b_range.1 b_range.2 (by decide) ?_
    refine x_cwt ?_
    repeat walk_at "g"
    refine x_builtin b_len.1 b_len.2 (by decide) ?_
    refine x_cwb ?_
    repeat walk_at "g"
    refine x_cellE (by rfl) eTa ?_
    repeat walk_at "g"
    refine x_len_list ex (by rw [ix.1]; omega) fun t1 => ?_
    repeat walk_at "g"
    rw [ix.1]
    refine x_range1 fun ra t2 t3 t4 hra => ?_
    have Er : Ext σa (Mine.put σa ra (.obj { cls := .type "range", dict := none, data := .fields #[.int 0 t2, .int text.length t3, .int 1 t4], slots := #[] })) := (Ext.refl σa).put hra
    refine xcomp_loop (S := .range 0 text.length) (fun acc k ys σ' => Ext σa σ' ∧ Ints ys ((placesOf kind text k).map fun (i : Nat) => (i : Int)))
      ⟨ra, _, t2, t3, t4, rfl, by omega, put_self _ _ _, by decide, by omega⟩ r.2.2 (Nat.le_trans hl5 (by decide)) (fun acc σ' _ h => ⟨Er.trans h, Ints.nil⟩) ?_ ?_ ?_ (by decide) (by rfl) (by rfl)
    · rintro acc j ys σ' σ'' y0 ⟨q1, q2⟩ _ q4 _ q6
      exact ⟨q1.ins (Er.none q4) q6, q2⟩
    · rintro c' it' acc j ys m3 σ' v o' hcA g1 g2 ⟨q1, q2⟩ g3 g4 _ hj ⟨tj, rfl⟩ Q1 Q2 hy hx
      have hj : j < text.length := hj
      obtain ⟨tw, hw⟩ := ix.2 j _ (List.getElem?_eq_getElem hj)
      have hgj : text.getD j 0 = text[j] := by rw [List.getD_eq_getElem?_getD, List.getElem?_eq_getElem hj]; rfl
      have fin : ∀ (σ3 : AH) (m4 : Lc), σ3 = σ' → m4 = upd m3 (S "place") (.int (0 + j) tj) → inText kind text j = true →
          XV c' m4 σ3 (eval (.Name "place" { line := 794, col := 18, endLine := 794, endCol := 23 }) (compEnvC { kind := ScopeKind.function, names := [(".0", NameKind.local), ("place", NameKind.local), ("kind", NameKind.free), ("text", NameKind.free)], isGenerator := false, isCoroutine := false } [(S "text", c.L + 1 + 1), (S "kind", c.L + 1)] c'.L (envX "_law_list" (Hd.fScope (Hd.stOf Hd.pw 27)) c.L 1219 (.ref 1218) [(S "text", c.L + 1 + 1), (S "kind", c.L + 1)]))) Q1 := by
        rintro σ3 m4 rfl rfl hin
        refine x_nameE (by rfl) ?_
        refine hy _ _ _ g3 g4 trivial ⟨q1, ?_⟩
        rw [placesOf_succ, hin, if_pos rfl, List.map_append]
        have := q2.snoc j tj
        rwa [show (0 : Int) + j = j by omega]
      refine x_tests_one ?_
      repeat walk_at "g"
      refine x_cellE (by rfl) (q1.some e2) ?_
      repeat walk_at "g"
      intro t5
      repeat walk_at "g"
      by_cases hk3 : kind = 3
      · refine ite_yes (beq_iff_eq.mpr hk3) ?_
        refine ite_yes rfl ?_
        exact fin _ _ rfl rfl (by unfold inText; rw [decide_eq_true hj, hk3]; rfl)
      · refine ite_no (by rw [beq_eq_false_iff_ne.mpr hk3]; decide) ?_
        repeat walk_at "g"
        refine x_cellE (by rfl) (q1.some eTa) ?_
        repeat walk_at "g"
        refine x_nameE (by rfl) ?_
        refine x_list_item (q1.some ex) (by omega) (by omega) (by rw [show ((0 : Int) + j).toNat = j by omega]; exact hw) ?_
        repeat walk_at "g"
        refine x_cellE (by rfl) (q1.some e2) ?_
        repeat walk_at "g"
        have hin : inText kind text j = (text[j] == kind) := by unfold inText; rw [decide_eq_true hj, beq_eq_false_iff_ne.mpr hk3, hgj]; simp
        by_cases hkj : text[j] = kind
        · refine ite_yes (beq_iff_eq.mpr hkj) ?_
          refine ite_yes rfl ?_
          exact fin _ _ rfl rfl (by rw [hin]; exact beq_iff_eq.mpr hkj)
        · refine ite_no (by rw [beq_eq_false_iff_ne.mpr hkj]; decide) ?_
          repeat walk_at "g"
          refine ite_no (by decide) ?_
          refine hx _ _ g3 g4 trivial ⟨q1, ?_⟩
          rw [placesOf_succ, hin, beq_eq_false_iff_ne.mpr hkj, if_neg (by decide), List.append_nil]
          exact q2
    rintro pl pv σb hpl ⟨Eb, ip⟩ epl
    have hpl : σa pl = none := Er.none hpl
    have ip : Ints pv ((placesOf kind text text.length).map fun (i : Nat) => (i : Int)) := ip
    have lp : pv.length ≤ 5 := by rw [ip.1, List.length_map]; exact Nat.le_trans (placesOf_len _ _ _) hl5
    repeat walk_at "g"
    refine x_m_append (Eb.some e3) ?_
    refine x_cwf ?_
    repeat walk_at "g"
    refine x_global g_ListMatcher.1 ?_
    refine x_cwk g_ListMatcher.2 ?_
    repeat walk_at "g"
    refine x_kw ?_
    refine x_comp (cl := [(S "text", c.L + 1 + 1)]) ?_ (by with_unfolding_all rfl) (by rfl) (by decide)
    repeat walk_at "g"
    refine xcomp_loop (S := .list pl pv) (fun acc k ys σ' => Ext σb σ' ∧ Ints ys ((((placesOf kind text text.length).take k).map fun i => wgt text i)))
      ⟨rfl, epl⟩ r.2.2 (Nat.le_trans lp (by decide)) (fun acc σ' _ h => ⟨h, Ints.nil⟩) ?_ ?_ ?_ (by decide) (by rfl) (by rfl)
    · rintro acc j ys σ' σ'' y0 ⟨q1, q2⟩ _ q4 _ q6
      exact ⟨q1.ins q4 q6, q2⟩
    · rintro c' it' acc j ys m3 σ' v o' hcA g1 g2 ⟨q1, q2⟩ g3 g4 gb hj hv Q1 Q2 hy _
      have hj : j < pv.length := hj
      have hv : pv[j]? = some v := hv
      have hjp : j < (placesOf kind text text.length).length := by rw [ip.1, List.length_map] at hj; exact hj
      obtain ⟨tp, hp⟩ := ip.2 j ((placesOf kind text text.length)[j] : Nat) (by rw [List.getElem?_map, List.getElem?_eq_getElem hjp]; rfl)
      obtain rfl : v = .int ((placesOf kind text text.length)[j] : Nat) tp := by rw [hp] at hv; cases hv; rfl
      have hin := placesOf_mem.mp (List.getElem_mem hjp)
      have hlt' : (placesOf kind text text.length)[j] < text.length := of_decide_eq_true (Bool.and_eq_true_iff.mp hin).1
      refine x_tests_nil ?_
      refine ite_yes rfl ?_
      repeat walk_at "g"
      refine x_globalE g_law_weight.1 ?_
      refine x_cw g_law_weight.2 ?_
      repeat walk_at "g"
      refine x_cellE (by rfl) (q1.some (Eb.some eTa)) ?_
      repeat walk_at "g"
      refine x_nameE (by rfl) ?_
      repeat walk_at "g"
      refine x_runs (r1200 (bb := 7) (q1.some (Eb.some ex)) ix hlt' (by omega)) (by rw [hcA.1]; exact r) fun v' σ4 q => ?_
      obtain ⟨⟨u, rfl⟩, rfl⟩ := q
      refine hy _ _ _ g3 g4 gb ⟨q1, ?_⟩
      rw [← List.take_append_getElem hjp, List.map_append]
      exact q2.snoc _ u
    rintro wl wv σc hwl ⟨Ec, iw⟩ ewl
    have iw : Ints wv ((placesOf kind text text.length).map fun i => wgt text i) := by
      rwa [show Src.n (.list pl pv) = (placesOf kind text text.length).length by show pv.length = _; rw [ip.1, List.length_map], List.take_length] at iw
    refine x_kw_nil ?_
    repeat walk_at "g"
    refine x_runs (make_list (Ec.some epl) ewl ip iw (by rw [List.length_map, List.length_map]) (by omega) (fun j k p q hjk hp hq => ?_) (listR_spec kind text)) (r.mono (by omega)) fun v σd q => ?_
    · rw [List.getElem?_map] at hp hq
      rcases w1 : (placesOf kind text text.length)[j]? with _ | p'
      · rw [w1] at hp; cases hp
      rcases w2 : (placesOf kind text text.length)[k]? with _ | q'
      · rw [w2] at hq; cases hq
      rw [w1] at hp; rw [w2] at hq
      cases hp; cases hq
      exact Int.ofNat_lt.mpr (placesOf_lt hjk w1 w2)
    obtain ⟨xl, rfl, hxl, hrep, Ed⟩ := q
    have Ed : Ext σc σd := Ed
    have Ead := (Eb.trans Ec).trans Ed
    repeat walk_at "g"
    refine x_append (Ead.some e3) (Nat.le_trans (by omega : _ ≤ 2) (by decide)) ?_
    refine ⟨fun a => (nomatch ·), ?_⟩
    repeat walk_at "g"
    have e4' : Mine.put σd ll (.list (lv ++ [.ref xl])) ol = some (.list ov) := by rw [put_ne (Ne.symm hne1)]; exact Ead.some e4
    refine x_m_append e4' ?_
    refine x_cwf ?_
    repeat walk_at "g"
    intro t6
    repeat walk_at "g"
    intro t7
    repeat walk_at "g"
    refine x_builtin b_len.1 b_len.2 (by decide) ?_
    refine x_cwb ?_
    repeat walk_at "g"
    refine x_len_list e4' (by omega) fun t8 => ?_
    refine x_mul_int (fun t9 => ?_) (IntMulOk.of_left (by decide +kernel))
    repeat walk_at "g"
    intro t10
    repeat walk_at "g"
    rw [l4]
    refine x_append e4' (Nat.le_trans (by omega : _ ≤ 2) (by decide)) ?_
    refine ⟨fun a => (nomatch ·), ?_⟩
    repeat walk_at "g"
    have hlltn : σ ll = none := E0.none hll
    have holtn : σ ol = none := E0.none hol1
    have hxla : σa xl = none := (Eb.trans Ec).none hxl
    have hwla : σa wl = none := Eb.none hwl
    have newfp : ∀ y, (y = xl ∨ y = pl ∨ y = wl) → σa y = none := by
      rintro y (rfl | rfl | rfl)
      · exact hxla
      · exact hpl
      · exact hwla
    have keep : ∀ y n, y ≠ ll → y ≠ ol → σd y = some n → Mine.put (Mine.put σd ll (.list (lv ++ [.ref xl]))) ol (.list (ov ++ [.int (20 + 10 * (k : Nat)) t10])) y = some n := fun y n q1 q2 e => by rw [put_ne q2, put_ne q1]; exact e
    have keep' : ∀ y, y ≠ ll → y ≠ ol → Mine.put (Mine.put σd ll (.list (lv ++ [.ref xl]))) ol (.list (ov ++ [.int (20 + 10 * (k : Nat)) t10])) y = σd y := fun y q1 q2 => by rw [put_ne q2, put_ne q1]
    have hitl : it ≠ ll := fun z => by rw [z, e3] at h2; cases h2
    have hito : it ≠ ol := fun z => by rw [z, e4] at h2; cases h2
    have htsl : ts ≠ ll := fun z => by rw [z, hlltn] at hts; cases hts
    have htso : ts ≠ ol := fun z => by rw [z, holtn] at hts; cases hts
    refine hN _ _ ⟨_, (fun j => if j = k then xl else as j), (fun j => if j = k then (fun y => y = xl ∨ y = pl ∨ y = wl) else fk j), lv ++ [.ref xl], ov ++ [.int (20 + 10 * (k : Nat)) t10], (((Ea.trans Ead).put hlltn).put holtn), m1, m2, keep _ _ (Ne.symm hlt) (Ne.symm hot) (Ead.some eTa), keep _ _ (Ne.symm hlk) (Ne.symm hok) (Ead.some e2),
      by rw [put_ne hne1, put_self], by simp [l3], fun j hj => ?_, put_self _ _ _, by simp [l4], fun j hj => ?_, fun j hj => ?_, fun i j y hi hj h1' h2' => ?_, fun j y hj hy => ?_⟩ (keep _ _ hitl hito (Ead.some h2)) (keep _ _ htsl htso (Ead.some hbL))
    · by_cases q : j = k
      · subst q; rw [if_pos rfl, List.getElem?_append_right (by omega), l3, Nat.sub_self]; rfl
      · rw [if_neg q, List.getElem?_append_left (by omega)]; exact i0.a3 j (by omega)
    · by_cases q : j = k
      · subst q; rw [List.getElem?_append_right (by omega), l4, Nat.sub_self]; exact ⟨_, rfl⟩
      · rw [List.getElem?_append_left (by omega)]; exact i0.a4 j (by omega)
    · by_cases q : j = k
      · subst q
        rw [if_pos rfl, if_pos rfl, hgd]
        refine kid_list.loc hrep fun y hy => keep' y (fun z => ?_) fun z => ?_
        · have := newfp y hy; rw [z, e3] at this; cases this
        · have := newfp y hy; rw [z, e4] at this; cases this
      · rw [if_neg q, if_neg q]
        refine kid_list.loc (k1 j (by omega)) fun y hy => ?_
        have hb := (i0.k3 j y (by omega) hy).2
        rw [keep' y (fun z => hb (.inl z)) fun z => hb (.inr (.inl z))]
        exact Ead y (kid_list.dom (k1 j (by omega)) hy)
    · have h1' := h1'
      by_cases q : i = k
      · by_cases q' : j = k
        · rw [q, q']
        · rw [if_pos q] at h1'
          rw [if_neg q'] at h2'
          exact (kid_list.dom (k1 j (by omega)) h2' (newfp y h1')).elim
      · by_cases q' : j = k
        · rw [if_neg q] at h1'
          rw [if_pos q'] at h2'
          exact (kid_list.dom (k1 i (by omega)) h1' (newfp y h2')).elim
        · rw [if_neg q] at h1'
          rw [if_neg q'] at h2'
          exact i0.k2 i j y (by omega) (by omega) h1' h2'
    · have hy := hy
      by_cases q : j = k
      · rw [if_pos q] at hy
        have z := newfp y hy
        refine ⟨Ea.none z, ?_⟩
        rintro (rfl | rfl | rfl | rfl | rfl)
        · rw [e3] at z; cases z
        · rw [e4] at z; cases z
        · rw [e2] at z; cases z
        · rw [eTa] at z; cases z
        · rw [h2] at z; cases z
      · rw [if_neg q] at hy
        exact i0.k3 j y (by omega) hy
  · rintro it m' σ' ⟨v0, as, fk, lv, ov, E, m1, m2, e1, e2, e3, l3, a3, e4, l4, a4, k1, k2, k3⟩
    repeat walk_at "g"
    have l3 : lv.length = texts.length := l3.trans htl
    have l4 : ov.length = texts.length := l4.trans htl
    rw [show Src.n (.list ts tv) = texts.length from htl] at a3 a4 k1 k2 k3
    refine x_global g_MultiMatcher.1 ?_
    refine x_cwk g_MultiMatcher.2 ?_
    repeat walk_at "g"
    refine x_kw ?_
    repeat walk_at "g"
    refine x_global g_WeightScorer.1 ?_
    refine x_cw g_WeightScorer.2 ?_
    repeat walk_at "g"
    intro t1
    repeat walk_at "g"
    refine x_runs (make_scorer 3 t1) (r.mono (by omega)) fun v σs q => ?_
    obtain ⟨sc, rfl, hsc, rfl⟩ := q
    refine x_kw_nil ?_
    have Es : Ext σ' (Mine.put σ' sc (.inst 1170 [(S "_maxweight", .int 3 t1)])) := (Ext.refl σ').put hsc
    have hl' : ∀ k, k < texts.length → (texts.getD k []).length ≤ 5 := fun k hk => by
      rw [List.getD_eq_getElem?_getD, List.getElem?_eq_getElem hk]; exact hl _ (List.getElem_mem hk)
    refine x_runs (make_multi (bb := 2) kid_list (as := as) (os := fun k => 20 + 10 * (k : Int)) (Rk := fun k => listR kind (texts.getD k [])) (fk := fk) (n := texts.length) ⟨lv, Es.some e3, l3, a3⟩ ⟨ov, Es.some e4, l4, a4⟩ ⟨_, put_self _ _ _, rfl⟩
      (fun k hk => kid_list.loc (k1 k hk) fun y hy => Es y (kid_list.dom (k1 k hk) hy)) k2 (fun k y hk hy => ⟨fun z => (k3 k y hk hy).2 (.inl z), fun z => (k3 k y hk hy).2 (.inr (.inl z)), fun z => kid_list.dom (k1 k hk) hy (z ▸ hsc)⟩) (by omega)
      (fun j k p q v v' hjk hk h1 h2 => ?_) (textsR_iff hl)) (r.mono (by omega)) fun v σf q => ?_
    · have b1 := listR_range h1
      have b2 := listR_range h2
      have := hl' j (by omega)
      omega
    · obtain ⟨x, rfl, hx, hrep, Ef⟩ := q
      have Ef : Ext _ σf := Ef
      refine ⟨x, _, rfl, hrep, ?_, (E.trans Es).trans Ef⟩
      rintro y (rfl | rfl | rfl | rfl | ⟨k, hk, hy⟩)
      · exact (E.trans Es).none hx
      · exact E0.none hll
      · exact E0.none hol1
      · exact E.none hsc
      · exact (k3 k y hk hy).1
end
section
variable {α β : Type} {c : Cx} {m : Lc} {σ : AH} {env : Env}
theorem x_assign_tup {elts : List Expr} {k : Nat} {tp pos : Pos} {value : Expr} {Q : Flow → Lc → AH → Prop} (h : XV c m σ (eval value env) fun v m1 σ1 => XV c m1 σ1 (unpack v (assignEach elts env)) fun _ => Q .next)
    (hs : swapsWithSole [.Tuple elts k tp] value pos.line env = pure false) (hw : swappedStores [.Tuple elts k tp] value env = pure none) : XV c m σ (exec (.Assign [.Tuple elts k tp] value pos) env) Q := .mk fun s S =>
  wpAny_Assign_stores (wpAny_mono (h.run s S) (fun v s1 ⟨m1, σ1, S1, q⟩ => by
    show wpAny c.M c.A (assignAll v [assign (.Tuple elts k tp) env]) _ _ _
    exact wpAny_bind (wpAny_standAt (q.run s1 S1))) fun _ _ e => e) hs hw
theorem x_unpack2 {l : Addr} {v1 v2 : Value} {f1 f2 : Value → Sem Unit} {Q : Unit → Lc → AH → Prop} (e : σ l = some (.list [v1, v2])) (hh : c.A.handled = none)
    (h : XV c m σ (f1 v1) fun _ m1 σ1 => XV c m1 σ1 (f2 v2) Q) : XV c m σ (unpack (.ref l) [(false, f1), (false, f2)]) Q := by
  unfold unpack
  refine x_bind (x_holding ?_)
  show XV c m σ (unpackItems (.ref l) 2 none) _
  unfold unpackItems
  refine x_bind (Q := _) (x_mono (Q := fun b m' σ' => b = false ∧ m' = m ∧ σ' = σ) (.mk fun s S => ?_) ?_)
  · unfold notIterableAtAll
    exact wpAny_bind (wpAny_specialOf (S.list e).typeIs PySem.slot_list_iter.lookup (wpAny_pure ⟨m, σ, S, rfl, rfl, rfl⟩))
  rintro b m' σ' ⟨rfl, rfl, rfl⟩
  rw [if_neg (by decide)]
  refine x_bind (x_holding (x_iter (S := .list l [v1, v2]) ⟨rfl, e⟩ fun it o hit ho => ?_))
  have hne : l ≠ it := fun z => by rw [z, hit] at e; cases e
  have e1 : ∀ n, put σ' it n l = some (.list [v1, v2]) := fun n => by rw [put_ne hne]; exact e
  refine x_bind (x_holding ?_)
  unfold draw
  refine x_bind (x_next (S := .list l [v1, v2]) (k := 0) (put_self _ _ _) ho (e1 _) (Nat.zero_lt_succ _) fun w1 o1 hw1 ho1 => ?_)
  cases hw1
  rw [put_put]
  refine x_bind (x_holding ?_)
  unfold draw
  refine x_bind (x_next (S := .list l [v1, v2]) (k := 1) (put_self _ _ _) ho1 (e1 _) (Nat.lt_succ_self _) fun w2 o2 hw2 ho2 => ?_)
  cases hw2
  rw [put_put]
  refine x_bind (x_holding ?_)
  unfold draw
  refine x_pure (x_pure (x_pure ?_))
  rw [if_neg (show ¬ [v1, v2].length < 2 from Nat.lt_irrefl 2)]
  refine x_bind (x_holding (x_next_end (S := .list l [v1, v2]) (put_self _ _ _) ho2 (e1 _) hh ?_))
  rw [if_neg (by decide)]
  rw [del_put hit]
  refine x_pure ?_
  show XV c m' σ' (do holding [v2] (f1 v1); assignInOrder [f2] [v2]) Q
  refine x_bind (x_holding (x_mono h fun _ m1 σ1 q => ?_))
  show XV c m1 σ1 (do holding [] (f2 v2); assignInOrder [] []) Q
  exact x_bind (x_holding (x_mono q fun _ m2 σ2 q2 => x_pure q2))
end
theorem two_new {n : Nat} {σ σ1 σ2 : AH} {Ra Rb : Strm} {va vb : Value} (q1 : NewRep n σ Ra va σ1) (q2 : NewRep n σ1 Rb vb σ2) :
    ∃ a b fa fb, va = .ref a ∧ vb = .ref b ∧ Rep n σ2 a Ra fa ∧ Rep n σ2 b Rb fb ∧ (∀ y, fa y → fb y → False) ∧ (∀ y, fa y ∨ fb y → σ y = none) ∧ Ext σ σ2 := by
  obtain ⟨a, fa, rfl, pa, na, e1⟩ := q1
  obtain ⟨b, fb, rfl, pb, nb, e2⟩ := q2
  refine ⟨a, b, fa, fb, rfl, rfl, (kidR n).loc pa fun y hy => e2 y ((kidR n).dom pa hy), pb, fun y h1 h2 => (kidR n).dom pa h1 (nb y h2), fun y hy => ?_, e1.trans e2⟩
  rcases hy with hy | hy
  · exact na y hy
  · exact e1.none (nb y hy)
theorem NewRep.le {n k : Nat} (l : n ≤ k) {σ σ' : AH} {R : Strm} {v : Value} (h : NewRep n σ R v σ') : NewRep k σ R v σ' := by
  obtain ⟨x, fp, h1, h2, h3, h4⟩ := h
  exact ⟨x, fp, h1, Rep.le l h2, h3, h4⟩
noncomputable def oneOf (q : Int) : Int := if q = 0 then 1 else 0
noncomputable def twoOf (q : Int) : Int := if q = 2 then 1 else 2
noncomputable def hereR (p : Part) (texts : List (List Int)) : Strm :=
  if p.1 < 4 then textsR p.1 texts else if p.1 = 7 then notR (textsR 3 texts) (textsR p.2.2 texts) else uniR (textsR (oneOf (p.1 - 4)) texts) (textsR (twoOf (p.1 - 4)) texts)
theorem sub_texts {texts : List (List Int)} (hl : ∀ text ∈ texts, text.length ≤ 5) (w : Int) : Sub (textsR 3 texts) (textsR w texts) := fun p v h => by
  obtain ⟨k, hk, h⟩ := (textsR_iff hl p v).mp h
  refine ⟨v, (textsR_iff hl p v).mpr ⟨k, hk, ?_⟩⟩
  unfold listR at h ⊢
  split at h
  · rename_i q
    rw [if_pos ⟨q.1, by unfold inText; rw [(Bool.and_eq_true_iff.mp q.2).1]; rfl⟩]
    exact h
  · cases h
section
variable {σ : AH}
theorem r1224 {ts pa : Addr} {texts : List (List Int)} {p : Part} (hT : TextsAt σ ts texts) (hP : PartAt σ pa p) (hlen : texts.length ≤ 2) (hl : ∀ text ∈ texts, text.length ≤ 5) (hp : 0 ≤ p.1 ∧ p.1 ≤ 7) :
    Runs 12 σ 1224 [.ref ts, .ref pa] [] (NewRep 1 σ (hereR p texts)) := by
  refine runsC (binds := [(S "texts", .ref ts), (S "part", .ref pa)]) (fun n => [(S "part", n, some (.ref pa))]) f1224 c1224 (fun P s X => .of_eq (by rfl)) (fun n x hx => ?_) (fun n => by rfl) (fun n x hx => ?_) (by exact ⟨rfl, rfl, rfl⟩) fun c r hc => ?_
  · rcases List.mem_cons.mp hx with rfl | hx
    · exact .inl (by rfl)
    · rcases List.mem_singleton.mp hx with rfl
      exact .inr ⟨by rfl, by rfl⟩
  · rcases List.mem_singleton.mp hx with rfl
    exact ⟨by rfl, by rfl⟩
  have hk0 : σ (c.L + 1) = none := hc (S "part", c.L + 1, some (.ref pa)) (List.mem_cons_self ..)
  clear hc
  have E0 : Ext σ (putC σ [(S "part", c.L + 1, some (.ref pa))]) := (Ext.refl σ).put hk0
  have eK : putC σ [(S "part", c.L + 1, some (.ref pa))] (c.L + 1) = some (.cell (some (.ref pa))) := put_self _ _ _
  generalize putC σ [(S "part", c.L + 1, some (.ref pa))] = σ1 at E0 eK
  obtain ⟨u1, u2, u3, ep⟩ := hP
  have ep := E0.some ep
  have hT := hT.ext E0
  have ret : ∀ v σ', NewRep 1 σ1 (hereR p texts) v σ' → NewRep 1 σ (hereR p texts) v σ' := fun v σ' ⟨x, fp, q1, q2, q3, q4⟩ => ⟨x, fp, q1, q2, fun y hy => E0.none (q3 y hy), E0.trans q4⟩
  refine x_mono ?_ fun fl m' σ' q => ret _ _ q
  unfold hereR
  repeat walk_at "g"
  refine x_cellE (by rfl) eK ?_
  repeat walk_at "g"
  intro t1
  refine x_tup_item ep (by decide) (by decide) rfl ?_
  repeat walk_at "g"
  intro t2
  repeat walk_at "g"
  by_cases h1 : p.1 < 4
  · rw [if_pos h1]
    refine ite_yes (decide_eq_true h1) ?_
    repeat walk_at "g"
    refine x_global g_law_list.1 ?_
    refine x_cw g_law_list.2 ?_
    repeat walk_at "g"
    refine x_cellE (by rfl) eK ?_
    repeat walk_at "g"
    intro t3
    refine x_tup_item ep (by decide) (by decide) rfl ?_
    repeat walk_at "g"
    exact x_runs (r1219 hT hlen hl) (r.mono (by omega)) fun v σ' q => NewRep.le (Nat.zero_le 1) q
  rw [if_neg h1]
  refine ite_no (by rw [decide_eq_false h1]; decide) ?_
  repeat walk_at "g"
  refine x_cellE (by rfl) eK ?_
  repeat walk_at "g"
  intro t3
  refine x_tup_item ep (by decide) (by decide) rfl ?_
  repeat walk_at "g"
  intro t4
  repeat walk_at "g"
  by_cases h2 : p.1 = 7
  · rw [if_pos h2]
    refine ite_yes (beq_iff_eq.mpr h2) ?_
    repeat walk_at "g"
    refine x_global g_AndNotMatcher.1 ?_
    refine x_cw g_AndNotMatcher.2 ?_
    repeat walk_at "g"
    refine x_global g_law_list.1 ?_
    refine x_cw g_law_list.2 ?_
    repeat walk_at "g"
    intro t5
    repeat walk_at "g"
    refine x_runs (r1219 hT hlen hl) (r.mono (by omega)) fun v1 σ2 q1 => ?_
    have E2 : Ext σ1 σ2 := by obtain ⟨_, _, _, _, _, e⟩ := q1; exact e
    repeat walk_at "g"
    refine x_global g_law_list.1 ?_
    refine x_cw g_law_list.2 ?_
    repeat walk_at "g"
    refine x_cellE (by rfl) (E2.some eK) ?_
    repeat walk_at "g"
    intro t6
    refine x_tup_item (E2.some ep) (by decide) (by decide) rfl ?_
    repeat walk_at "g"
    refine x_runs (r1219 (hT.ext E2) hlen hl) (r.mono (by omega)) fun v2 σ3 q2 => ?_
    obtain ⟨a, b, fa, fb, rfl, rfl, pa', pb', dis, nn, E3⟩ := two_new (n := 0) q1 q2
    repeat walk_at "g"
    refine x_runs (make_not (kidR 0) pa' pb' dis (sub_texts hl _)) r fun v σ4 q => ?_
    obtain ⟨x, rfl, hx, hN, hE⟩ := q
    refine ⟨x, _, rfl, Rep.n hN, fun y hy => ?_, fun y hy => ?_⟩
    · rcases hy with rfl | hy
      · exact E3.none hx
      · exact nn y hy
    · have z := E3 y hy
      rw [hE y (fun q => hy (nn y q)) (by rw [z]; exact hy), z]
  rw [if_neg h2]
  refine ite_no (by rw [beq_eq_false_iff_ne.mpr h2]; decide) ?_
  repeat walk_at "g"
  refine x_assign_tup ?_ (by with_unfolding_all rfl) (by with_unfolding_all rfl)
  refine x_comp (cl := [(S "part", c.L + 1)]) ?_ (by with_unfolding_all rfl) (by rfl) (by decide)
  repeat walk_at "g"
  refine x_builtin b_range.1 b_range.2 (by decide) ?_
  refine x_cwt ?_
  repeat walk_at "g"
  intro t5
  repeat walk_at "g"
  refine x_range1 fun ra t6 t7 t8 hra => ?_
  have Er : Ext σ1 (Mine.put σ1 ra (.obj { cls := .type "range", dict := none, data := .fields #[.int 0 t6, .int 3 t7, .int 1 t8], slots := #[] })) := (Ext.refl σ1).put hra
  refine xcomp_loop (S := .range 0 3) (fun acc k ys σ' => Ext σ1 σ' ∧ Ints ys (((List.range k).filter fun (w : Nat) => (w : Int) != p.1 - 4).map fun (i : Nat) => (i : Int)))
    ⟨ra, _, t6, t7, t8, rfl, by rfl, put_self _ _ _, by decide, by decide⟩ r.2.2 (by decide) (fun acc σ' _ h => ⟨Er.trans h, Ints.nil⟩) ?_ ?_ ?_ (by decide) (by rfl) (by rfl)
  · rintro acc j ys σ' σ'' y0 ⟨q1, q2⟩ _ q4 _ q6
    exact ⟨q1.ins (Er.none q4) q6, q2⟩
  · rintro c' it' acc j ys m3 σ' v o' hcA g1 g2 ⟨q1, q2⟩ g3 g4 _ hj ⟨tj, rfl⟩ Q1 Q2 hy hx
    refine x_tests_one ?_
    repeat walk_at "g"
    refine x_nameE (by rfl) ?_
    repeat walk_at "g"
    refine x_cellE (by rfl) (q1.some eK) ?_
    repeat walk_at "g"
    intro t9
    refine x_tup_item (q1.some ep) (by decide) (by decide) rfl ?_
    repeat walk_at "g"
    intro t10
    repeat walk_at "g"
    intro t11
    repeat walk_at "g"
    by_cases hw : (j : Int) = p.1 - 4
    · refine ite_no (by rw [show (0 : Int) + j = j by omega, hw]; simp) ?_
      refine hx _ _ g3 g4 trivial ⟨q1, ?_⟩
      rw [List.range_succ, List.filter_append, List.map_append]
      rw [show List.filter (fun (w : Nat) => (w : Int) != p.1 - 4) [j] = [] by simp [hw]]
      simpa using q2
    · refine ite_yes (by rw [show (0 : Int) + j = j by omega]; exact bne_iff_ne.mpr hw) ?_
      refine x_nameE (by rfl) ?_
      refine hy _ _ _ g3 g4 trivial ⟨q1, ?_⟩
      rw [List.range_succ, List.filter_append, List.map_append]
      rw [show List.filter (fun (w : Nat) => (w : Int) != p.1 - 4) [j] = [j] by simp [hw]]
      have := q2.snoc j tj
      rw [show (0 : Int) + j = j by omega]
      exact this
  rintro acc ys σ' hacc ⟨E2, i2⟩ ea
  have i2 : Ints ys (((List.range 3).filter fun (w : Nat) => (w : Int) != p.1 - 4).map fun (i : Nat) => (i : Int)) := i2
  have hys : ∃ t1 t2, ys = [.int (oneOf (p.1 - 4)) t1, .int (twoOf (p.1 - 4)) t2] := by
    have hq : p.1 - 4 = 0 ∨ p.1 - 4 = 1 ∨ p.1 - 4 = 2 := by omega
    have two : ∀ a b : Int, Ints ys [a, b] → ∃ t1 t2, ys = [.int a t1, .int b t2] := by
      rintro a b ⟨h1, h2⟩
      obtain ⟨t1, h3⟩ := h2 0 a rfl
      obtain ⟨t2, h4⟩ := h2 1 b rfl
      match ys, h1, h3, h4 with
      | [y1, y2], _, h3, h4 => cases h3; cases h4; exact ⟨t1, t2, rfl⟩
    rcases hq with hq | hq | hq <;> rw [hq] at i2 ⊢ <;> exact two _ _ i2
  obtain ⟨t9, t10, rfl⟩ := hys
  refine x_unpack2 ea r.2.2 ?_
  refine x_assign_name ?_
  repeat walk_at "g"
  refine x_assign_name ?_
  repeat walk_at "g"
  refine x_global g_UnionMatcher.1 ?_
  refine x_cw g_UnionMatcher.2 ?_
  repeat walk_at "g"
  refine x_global g_law_list.1 ?_
  refine x_cw g_law_list.2 ?_
  repeat walk_at "g"
  have hT2 := hT.ext E2
  refine x_runs (r1219 hT2 hlen hl) (r.mono (by omega)) fun v1 σ2 q1 => ?_
  have E3 : Ext σ' σ2 := by obtain ⟨_, _, _, _, _, e⟩ := q1; exact e
  repeat walk_at "g"
  refine x_global g_law_list.1 ?_
  refine x_cw g_law_list.2 ?_
  repeat walk_at "g"
  refine x_runs (r1219 (hT2.ext E3) hlen hl) (r.mono (by omega)) fun v2 σ3 q2 => ?_
  obtain ⟨a, b, fa, fb, rfl, rfl, pa', pb', dis, nn, E4⟩ := two_new (n := 0) q1 q2
  repeat walk_at "g"
  refine x_runs (make_union (kidR 0) pa' pb' dis) (r.mono (by omega)) fun v σ4 q => ?_
  obtain ⟨x, rfl, hx, hN, hE⟩ := q
  refine ⟨x, _, rfl, Rep.u hN, fun y hy => ?_, (E2.trans E4).trans hE⟩
  rcases hy with rfl | hy
  · exact (E2.trans E4).none hx
  · exact E2.none (nn y hy)
end
noncomputable def shiftR (g : Int) (T : Strm) : Strm := fun p => T (p - (0 - g))
noncomputable def ups (T : Strm) : Nat → Strm
  | 0 => fun _ => none
  | 1 => shiftR 1 T
  | k + 2 => uniR (ups T (k + 1)) (shiftR (k + 2 : Nat) T)
noncomputable def treeR (texts : List (List Int)) : List Part → Strm
  | [] => fun _ => none
  | p :: rest => match rest with
    | [] => hereR p texts
    | q :: _ => intR (hereR p texts) (ups (treeR texts rest) q.2.1.toNat)
noncomputable def R1231 (σ1 : AH) (n : Nat) (T : Strm) (it : Addr) (k : Nat) (m' : Lc) (σ' : AH) : Prop := (k = 0 ∧ m' "rest" = some .none) ∨ (0 < k ∧ ∃ rr fr, m' "rest" = some (.ref rr) ∧ Rep (4 * n + 1 + k) σ' rr (ups T k) fr ∧ (∀ y, fr y → σ1 y = none) ∧ ¬ fr it)
structure I1231 (σ1 : AH) (ts pl h : Addr) (turn : Nat) (t : Tok) (n : Nat) (T : Strm) (it : Addr) (k : Nat) (m' : Lc) (σ' : AH) : Prop where
  E : Ext σ1 σ'
  h0 : σ1 it = none
  m1 : m' "texts" = some (.ref ts)
  m2 : m' "parts" = some (.ref pl)
  m3 : m' "turn" = some (.int turn t)
  m4 : m' "here" = some (.ref h)
  hR : R1231 σ1 n T it k m' σ'
section
theorem r1231 {ts pl : Addr} {texts : List (List Int)} {parts : List Part} (hlen : texts.length ≤ 2) (hl : ∀ text ∈ texts, text.length ≤ 5) (hp : parts.length ≤ 3) (hg : ∀ p ∈ parts, (0 ≤ p.1 ∧ p.1 ≤ 7) ∧ 1 ≤ p.2.1 ∧ p.2.1 ≤ 3) :
    ∀ (n turn : Nat), turn + (n + 1) = parts.length → ∀ (σ : AH) (t : Tok), TextsAt σ ts texts → PartsAt σ pl parts → Runs (24 * n + 13) σ 1231 [.ref ts, .ref pl, .int turn t] [] (NewRep (4 * n + 1) σ (treeR texts (parts.drop turn))) := by
  intro n
  induction n using Nat.strongRecOn with
  | ind n ih =>
  intro turn hn σ t hT hP
  obtain ⟨pv, ep, hpv, hpa⟩ := id hP
  have hlt : turn < parts.length := by omega
  obtain ⟨pa, ha1, ha2⟩ := hpa turn _ (List.getElem?_eq_getElem hlt)
  have hW : treeR texts (parts.drop turn) = (match parts.drop (turn + 1) with
      | [] => hereR parts[turn] texts
      | q :: _ => intR (hereR parts[turn] texts) (ups (treeR texts (parts.drop (turn + 1))) q.2.1.toNat)) := by
    rw [List.drop_eq_getElem_cons hlt]; rfl
  have hg1 := hg _ (List.getElem_mem hlt)
  generalize treeR texts (parts.drop turn) = W at hW ⊢
  refine runs (binds := [(S "texts", .ref ts), (S "parts", .ref pl), (S "turn", .int turn t)]) f1231 c1231 (fun P s X => .of_eq (by rfl)) (by rfl) (by rfl) (by exact ⟨rfl, rfl, rfl⟩) fun c r => ?_
  repeat walk_at "g"
  refine x_global g_law_here.1 ?_
  refine x_cw g_law_here.2 ?_
  repeat walk_at "g"
  refine x_list_item ep (Int.natCast_nonneg _) (by omega) (by rw [Int.toNat_natCast]; exact ha1) ?_
  repeat walk_at "g"
  refine x_runs (r1224 hT ha2 hlen hl hg1.1) (r.mono (by omega)) fun v σ1 q => ?_
  obtain ⟨h, fh, rfl, hH, hHn, E1⟩ := q
  repeat walk_at "g"
  intro t2
  repeat walk_at "g"
  intro t3
  repeat walk_at "g"
  refine x_builtin b_len.1 b_len.2 (by decide) ?_
  refine x_cwb ?_
  repeat walk_at "g"
  refine x_len_list (E1.some ep) (by omega) fun t1 => ?_
  repeat walk_at "g"
  rw [hpv]
  by_cases h3 : turn + 1 = parts.length
  · rw [show parts.drop (turn + 1) = [] by rw [h3]; exact List.drop_length] at hW
    refine ite_yes (beq_iff_eq.mpr (by omega)) ?_
    repeat walk_at "g"
    exact ⟨h, fh, rfl, by rw [show W = hereR parts[turn] texts from hW]; exact Rep.le (show 1 ≤ 4 * n + 1 by omega) hH, hHn, E1⟩
  have hlt2 : turn + 1 < parts.length := by omega
  obtain ⟨n, rfl⟩ : ∃ n', n = n' + 1 := ⟨n - 1, by omega⟩
  have ih := ih n (Nat.lt_succ_self _) (turn + 1) (by omega)
  rw [List.drop_eq_getElem_cons hlt2] at hW
  simp only at hW
  rw [← List.drop_eq_getElem_cons hlt2] at hW
  obtain ⟨qa, hb1, hb2⟩ := hpa (turn + 1) _ (List.getElem?_eq_getElem hlt2)
  obtain ⟨u1, u2, u3, eq⟩ := hb2
  have hq := (hg parts[turn + 1] (List.getElem_mem hlt2)).2
  generalize parts[turn + 1] = q at hb1 eq hq hW
  refine ite_no (by rw [beq_eq_false_iff_ne.mpr (by omega)]; decide) ?_
  repeat walk_at "g"
  refine x_for ?_
  repeat walk_at "g"
  refine x_builtin b_range.1 b_range.2 (by decide) ?_
  refine x_cwt ?_
  repeat walk_at "g"
  intro t4
  repeat walk_at "g"
  intro t5
  repeat walk_at "g"
  intro t6
  refine x_list_item (E1.some ep) (by omega) (by omega) (by rw [show ((turn : Int) + 1).toNat = turn + 1 by omega]; exact hb1) ?_
  repeat walk_at "g"
  intro t7
  refine x_tup_item (E1.some eq) (by decide) (by decide) rfl ?_
  repeat walk_at "g"
  intro t8
  repeat walk_at "g"
  intro t9
  repeat walk_at "g"
  refine x_range2 fun ra t10 t11 t12 hra => ?_
  have E2 : Ext σ1 (Mine.put σ1 ra (.obj { cls := .type "range", dict := none, data := .fields #[.int 1 t10, .int (q.2.1 + 1) t11, .int 1 t12], slots := #[] })) := (Ext.refl σ1).put hra
  generalize treeR texts (parts.drop (turn + 1)) = T at ih hW
  refine xf_loop2 (S := .range 1 q.2.1.toNat) (I1231 σ1 ts pl h turn t n T)
    ⟨ra, _, t10, t11, t12, rfl, by omega, put_self _ _ _, by decide, by omega⟩ r.2.2 (fun it hit => ⟨E2, E2.none hit, rfl, rfl, rfl, rfl, .inl ⟨rfl, rfl⟩⟩) ?_ ?_ ?_
  · rintro it k m' σ' σ'' h1 ⟨E, h0, m1, m2, m3, m4, hR⟩ h2 h3
    refine ⟨E.ins h0 h3, h0, m1, m2, m3, m4, hR.imp_right fun ⟨q1, rr, fr, q2, q3, q4, q5⟩ => ⟨q1, rr, fr, q2, (kidR _).loc q3 fun y hy => h3 y fun z => q5 (z ▸ hy), q4, q5⟩⟩
  · rintro it k m' σ' v o h1 ⟨E, h0, m1, m2, m3, m4, hR⟩ h2 _ hk ⟨tv, rfl⟩ Q0 hN _
    have hk : k < q.2.1.toNat := hk
    have EE := E1.trans E
    refine x_assign_name ?_
    repeat walk_at "g"
    refine x_global g_MultiMatcher.1 ?_
    refine x_cwk g_MultiMatcher.2 ?_
    repeat walk_at "g"
    refine x_list ?_
    repeat walk_at "g"
    refine x_global g_law_tree.1 ?_
    refine x_cw g_law_tree.2 ?_
    repeat walk_at "g"
    intro t13
    repeat walk_at "g"
    intro t14
    repeat walk_at "g"
    refine x_runs (ih σ' t14 (hT.ext EE) (hP.ext EE)) (r.mono (by omega)) fun v σ2 q2 => ?_
    obtain ⟨tr, ft, rfl, hTr, hTn, E3⟩ := q2
    repeat walk_at "g"
    refine x_newlist (by exact Nat.le_of_ble_eq_true rfl) fun ml hml => ?_
    repeat walk_at "g"
    refine x_list ?_
    repeat walk_at "g"
    intro t15
    repeat walk_at "g"
    intro t16
    repeat walk_at "g"
    refine x_newlist (by exact Nat.le_of_ble_eq_true rfl) fun ol hol => ?_
    repeat walk_at "g"
    refine x_kw ?_
    repeat walk_at "g"
    refine x_global g_WeightScorer.1 ?_
    refine x_cw g_WeightScorer.2 ?_
    repeat walk_at "g"
    intro t17
    repeat walk_at "g"
    refine x_runs (make_scorer 9 t17) (r.mono (by omega)) fun v σs q2 => ?_
    obtain ⟨sc, rfl, hsc, rfl⟩ := q2
    refine x_kw_nil ?_
    have G1 : Ext σ2 (Mine.put σ2 ml (.list [.ref tr])) := (Ext.refl σ2).put hml
    have G2 := G1.put (n := .list [.int (0 - (1 + (k : Int))) t16]) (G1.none hol)
    have G3 := G2.put (n := .inst 1170 [(S "_maxweight", .int 9 t17)]) (G2.none hsc)
    have emlne : ml ≠ ol := fun z => by rw [← z, put_self] at hol; cases hol
    have eml : Mine.put (Mine.put σ2 ml (.list [.ref tr])) ol (.list [.int (0 - (1 + (k : Int))) t16]) ml = some (.list [.ref tr]) := by rw [put_ne emlne, put_self]
    have eol : Mine.put (Mine.put σ2 ml (.list [.ref tr])) ol (.list [.int (0 - (1 + (k : Int))) t16]) ol = some (.list [.int (0 - (1 + (k : Int))) t16]) := put_self _ _ _
    have Gs : Ext (Mine.put (Mine.put σ2 ml (.list [.ref tr])) ol (.list [.int (0 - (1 + (k : Int))) t16])) (Mine.put (Mine.put (Mine.put σ2 ml (.list [.ref tr])) ol (.list [.int (0 - (1 + (k : Int))) t16])) sc (.inst 1170 [(S "_maxweight", .int 9 t17)])) := (Ext.refl _).put hsc
    have domT : ∀ y, ft y → σ2 y ≠ none := fun y hy => (kidR _).dom hTr hy
    refine x_runs (make_multi (kidR (4 * n + 1)) (n := 1) (as := fun _ => tr) (os := fun _ => 0 - (1 + (k : Int))) (Rk := fun _ => T) (fk := fun _ => ft) (R := shiftR (1 + (k : Int)) T) ⟨[.ref tr], Gs.some eml, rfl, fun j hj => by rw [Nat.lt_one_iff.mp hj]; rfl⟩
      ⟨_, Gs.some eol, rfl, fun j hj => by rw [Nat.lt_one_iff.mp hj]; exact ⟨_, rfl⟩⟩ ⟨_, put_self _ _ _, rfl⟩ (fun j hj => (kidR _).loc hTr fun y hy => G3 y (domT y hy)) (fun i j y hi hj _ _ => by omega)
      (fun j y _ hy => ⟨fun z => domT y hy (z ▸ hml), fun z => domT y hy (z ▸ G1.none hol), fun z => domT y hy (z ▸ G2.none hsc)⟩) (by decide) (fun i j p q v v' hij hj => by omega) (fun p v => ⟨fun h => ⟨0, Nat.zero_lt_one, h⟩, fun ⟨_, _, h⟩ => h⟩)) (r.mono (by omega)) fun v σm q2 => ?_
    obtain ⟨w, rfl, hw, hM, Em⟩ := q2
    have Em : Ext _ σm := Em
    have EM := (E3.trans G3).trans Em
    have newW : ∀ y, (y = w ∨ y = ml ∨ y = ol ∨ y = sc ∨ ∃ k, k < 1 ∧ ft y) → σ' y = none := by
      rintro y (rfl | rfl | rfl | rfl | ⟨_, _, hy⟩)
      · exact (E3.trans G3).none hw
      · exact E3.none hml
      · exact (E3.trans G1).none hol
      · exact (E3.trans G2).none hsc
      · exact hTn y hy
    have hM := Rep.m hM
    repeat walk_at "g"
    refine x_ifexp ?_
    rcases hR with ⟨rfl, hR⟩ | ⟨hk0, rr, fr, hR, hRr, hRn, hRi⟩
    · repeat walk_at "g"
      refine x_is_none ?_
      repeat walk_at "g"
      refine ite_yes rfl ?_
      repeat walk_at "g"
      refine hN _ _ ⟨E.trans EM, h0, m1, m2, m3, m4, .inr ⟨Nat.zero_lt_one, w, _, rfl, hM, fun y hy => E.none (newW y hy), fun hy => ?_⟩⟩ (EM.some h2) trivial
      have z := newW it hy
      rw [h2] at z; cases z
    · repeat walk_at "g"
      refine x_is_none ?_
      repeat walk_at "g"
      refine ite_no Bool.false_ne_true ?_
      repeat walk_at "g"
      refine x_global g_UnionMatcher.1 ?_
      refine x_cw g_UnionMatcher.2 ?_
      repeat walk_at "g"
      have hRr' := (kidR (4 * n + 1 + k)).loc hRr fun y hy => EM y ((kidR _).dom hRr hy)
      refine x_runs (make_union (kidR (4 * n + 1 + k)) hRr' (Rep.le (by omega) hM) fun y h1 h2 => (kidR _).dom hRr h1 (newW y h2)) (r.mono (by omega)) fun v σu q2 => ?_
      obtain ⟨x, rfl, hx, hU, Eu⟩ := q2
      have Eu : Ext σm σu := Eu
      repeat walk_at "g"
      have hU' : ups T (k + 1) = uniR (ups T k) (shiftR (1 + (k : Int)) T) := by
        obtain ⟨k, rfl⟩ : ∃ k', k = k' + 1 := ⟨k - 1, by omega⟩
        show uniR (ups T (k + 1)) (shiftR _ T) = _
        rw [show ((k + 2 : Nat) : Int) = 1 + ((k + 1 : Nat) : Int) by omega]
      refine hN _ _ ⟨(E.trans EM).trans Eu, h0, m1, m2, m3, m4, .inr ⟨Nat.succ_pos _, x, _, rfl, hU' ▸ Rep.u hU, fun y hy => ?_, fun hy => ?_⟩⟩ (Eu.some (EM.some h2)) trivial
      · rcases hy with rfl | hy | hy
        · exact (E.trans EM).none hx
        · exact hRn y hy
        · exact E.none (newW y hy)
      · rcases hy with rfl | hy | hy
        · rw [EM.some h2] at hx; cases hx
        · exact hRi hy
        · have z := newW it hy
          rw [h2] at z; cases z
  · rintro it m' σ' ⟨E, h0, m1, m2, m3, m4, hR⟩
    rcases hR with ⟨hz, _⟩ | ⟨hk0, rr, fr, hR, hRr, hRn, hRi⟩
    · have hz : q.2.1.toNat = 0 := hz
      omega
    have hk0 : 0 < q.2.1.toNat := hk0
    have hRr : Rep (4 * n + 1 + q.2.1.toNat) σ' rr (ups T q.2.1.toNat) fr := hRr
    repeat walk_at "g"
    refine x_global g_IntersectionMatcher.1 ?_
    refine x_cw g_IntersectionMatcher.2 ?_
    repeat walk_at "g"
    have hH' := (kidR _).loc hH fun y hy => E y ((kidR _).dom hH hy)
    refine x_runs (make_inter (kidR (4 * n + 4)) (Rep.le (by omega) hH') (Rep.le (by omega) hRr) fun y h1 h2 => (kidR _).dom hH h1 (hRn y h2)) (r.mono (by omega)) fun v σf q2 => ?_
    obtain ⟨x, rfl, hx, hI, hE⟩ := q2
    refine ⟨x, _, rfl, by rw [hW]; exact Rep.le (by omega) (Rep.i hI), fun y hy => ?_, fun y hy => ?_⟩
    · rcases hy with rfl | hy | hy
      · exact (E1.trans E).none hx
      · exact hHn y hy
      · exact E1.none (hRn y hy)
    · have z := (E1.trans E) y hy
      rw [hE y (fun z2 => hy (z2.elim (hHn y) fun z2 => E1.none (hRn y z2))) (by rw [z]; exact hy), z]
end
-- the plain law: what the tree of matchers yields is what the law's own count says
noncomputable def tsum (text : List Int) (ps : List Part) (p : Nat) : Option Int := if waysP text ps p = [] then none else some (sumGo text [] (waysP text ps p))
theorem rowSum_cons (text : List Int) (p : Nat) (past row : List Nat) : ∀ k, rowSum text (p :: past) (p :: row) (k + 1) = rowSum text past row k
  | 0 => by simp [rowSum]
  | k + 1 => by
    rw [rowSum, rowSum_cons text p past row k, rowSum]
    simp
theorem rowSum_nil (text : List Int) (p : Nat) (row : List Nat) : ∀ k, k ≤ row.length → rowSum text [] (p :: row) (k + 1) = wgt text p + rowSum text [] row k
  | 0, _ => by simp [rowSum]
  | k + 1, h => by
    rw [rowSum, rowSum_nil text p row k (by omega), rowSum]
    have h1 : ¬ row.take (k + 1) = ([] : List Nat).take (k + 1) := by
      cases row with
      | nil => simp at h
      | cons b row => simp
    rw [if_neg h1, if_neg (by simp)]
    have h2 : (p :: row).getD (k + 1) 0 = row.getD k 0 := by simp
    rw [h2]
    omega
theorem rowSum_apart (text : List Int) (past row : List Nat) (h : ∀ a b, past.head? = some a → row.head? = some b → a ≠ b) : ∀ k, k ≤ row.length → rowSum text past row k = rowSum text [] row k
  | 0, _ => rfl
  | k + 1, hk => by
    rw [rowSum, rowSum, rowSum_apart text past row h k (by omega)]
    cases row with
    | nil => simp at hk
    | cons b row =>
      have h1 : ¬ (b :: row).take (k + 1) = ([] : List Nat).take (k + 1) := by simp
      rw [if_neg h1]
      cases past with
      | nil => rw [if_neg h1]
      | cons a past =>
        rw [if_neg]
        intro q
        simp at q
        exact h a b rfl rfl q.1.symm
theorem sumGo_cons (text : List Int) (p : Nat) : ∀ (rows : List (List Nat)) (past : List Nat), sumGo text (p :: past) (rows.map (p :: ·)) = sumGo text past rows
  | [], _ => rfl
  | row :: rows, past => by
    rw [List.map_cons, sumGo, sumGo, List.length_cons, rowSum_cons, sumGo_cons text p rows row]
theorem sumGo_nil (text : List Int) (p : Nat) {rows : List (List Nat)} (h : rows ≠ []) : sumGo text [] (rows.map (p :: ·)) = wgt text p + sumGo text [] rows := by
  cases rows with
  | nil => exact (h rfl).elim
  | cons row rows =>
    rw [List.map_cons, sumGo, sumGo, List.length_cons, rowSum_nil text p row _ (Nat.le_refl _), sumGo_cons]
    omega
theorem sumGo_apart (text : List Int) (past : List Nat) (rows : List (List Nat)) (h : ∀ row a b, rows.head? = some row → past.head? = some a → row.head? = some b → a ≠ b) : sumGo text past rows = sumGo text [] rows := by
  cases rows with
  | nil => rfl
  | cons row rows => rw [sumGo, sumGo, rowSum_apart text past row (fun a b h1 h2 => h row a b rfl h1 h2) _ (Nat.le_refl _)]
noncomputable def lastOr : List Nat → List (List Nat) → List Nat
  | past, [] => past
  | _, row :: rows => lastOr row rows
theorem sumGo_append (text : List Int) (B : List (List Nat)) : ∀ (A : List (List Nat)) (past : List Nat), sumGo text past (A ++ B) = sumGo text past A + sumGo text (lastOr past A) B
  | [], past => by simp [sumGo, lastOr]
  | row :: A, past => by
    rw [List.cons_append, sumGo, sumGo, sumGo_append text B A row, lastOr]; omega
theorem lastOr_mem : ∀ (A : List (List Nat)) (past : List Nat), lastOr past A = past ∨ lastOr past A ∈ A
  | [], _ => .inl rfl
  | row :: A, past => by
    rcases lastOr_mem A row with h | h
    · exact .inr (by rw [lastOr, h]; exact List.mem_cons_self)
    · exact .inr (by rw [lastOr]; exact List.mem_cons_of_mem _ h)
theorem waysP_head (text : List Int) {ps : List Part} {place : Nat} {row : List Nat} (h : row ∈ waysP text ps place) : row.head? = some place := by
  cases ps with
  | nil => cases h
  | cons p rest =>
    unfold waysP at h
    split at h
    · cases rest with
      | nil => rcases List.mem_singleton.mp h with rfl; rfl
      | cons q rest =>
        obtain ⟨g, _, h⟩ := List.mem_flatMap.mp h
        obtain ⟨row', _, rfl⟩ := List.mem_map.mp h
        rfl
    · cases h
theorem waysP_out (text : List Int) (ps : List Part) {place : Nat} (h : text.length ≤ place) : waysP text ps place = [] := by
  cases ps with
  | nil => rfl
  | cons p rest =>
    unfold waysP
    rw [if_neg fun q => by omega]
/-- the rows of the next part within a gap of k -/
noncomputable def nextW (text : List Int) (ps : List Part) (place k : Nat) : List (List Nat) := (List.range' 1 k).flatMap fun g => waysP text ps (place + g)
theorem nextW_succ (text : List Int) (ps : List Part) (place k : Nat) : nextW text ps place (k + 1) = nextW text ps place k ++ waysP text ps (place + (1 + k)) := by
  unfold nextW
  rw [range'_snoc, List.flatMap_append, List.flatMap_singleton]
theorem sum_nextW (text : List Int) (ps : List Part) (place k : Nat) : sumGo text [] (nextW text ps place (k + 1)) = sumGo text [] (nextW text ps place k) + sumGo text [] (waysP text ps (place + (1 + k))) := by
  rw [nextW_succ, sumGo_append, sumGo_apart text (lastOr [] (nextW text ps place k))]
  intro row a b h1 h2 h3
  have hb := waysP_head text (List.mem_of_mem_head? h1)
  rw [hb] at h3
  cases h3
  rcases lastOr_mem (nextW text ps place k) [] with h | h
  · rw [h] at h2; cases h2
  · obtain ⟨g, hg, hm⟩ := List.mem_flatMap.mp h
    rw [waysP_head text hm] at h2
    cases h2
    have := List.mem_range'_1.mp hg
    omega
theorem uni_app {A B : List (List Nat)} {a b : Int} (ha : A = [] → a = 0) (hb : B = [] → b = 0) : uni (if A = [] then none else some a) (if B = [] then none else some b) = if A ++ B = [] then none else some (a + b) := by
  cases A with
  | nil =>
    rw [if_pos rfl, ha rfl, List.nil_append, Int.zero_add]; rfl
  | cons x A =>
    rw [if_neg (List.cons_ne_nil x A), if_neg (show ¬ (x :: A) ++ B = [] from List.cons_ne_nil _ _)]
    cases B with
    | nil => rw [if_pos rfl, hb rfl, Int.add_zero]; rfl
    | cons y B => rw [if_neg (List.cons_ne_nil y B)]; rfl
theorem ups_val (text : List Int) (ps : List Part) (T : Strm) (i : Int) (place : Nat) (n : Nat) (hT : ∀ j : Nat, 1 ≤ j → j ≤ n → T (i + j) = tsum text ps (place + j)) :
    ∀ k, 1 ≤ k → k ≤ n → ups T k i = if nextW text ps place k = [] then none else some (sumGo text [] (nextW text ps place k))
  | 1, _, h => by
    have z := hT 1 (Nat.le_refl _) h
    have e : nextW text ps place 1 = waysP text ps (place + 1) := by
      rw [nextW_succ]; show [] ++ _ = _; rfl
    rw [e]
    show T (i - (0 - 1)) = _
    rw [show i - (0 - 1) = i + (1 : Nat) by omega, z]; rfl
  | k + 2, _, h => by
    have ih := ups_val text ps T i place n hT (k + 1) (by omega) (by omega)
    show uni (ups T (k + 1) i) (T (i - (0 - ((k + 2 : Nat) : Int)))) = _
    rw [ih, show i - (0 - ((k + 2 : Nat) : Int)) = i + ((k + 2 : Nat) : Int) by omega, hT (k + 2) (by omega) h, sum_nextW text ps place (k + 1), nextW_succ text ps place (k + 1), show place + (k + 2) = place + (1 + (k + 1)) by omega]
    exact uni_app (fun h => by rw [h]; rfl) (fun h => by rw [h]; rfl)

-- the texts
theorem textGo_vals : ∀ (k : Nat) (n : Int), ∀ w ∈ textGo k n, 0 ≤ w ∧ w < 3
  | 0, _, w, h => by cases h
  | k + 1, n, w, h => by
    unfold textGo at h
    split at h
    · cases h
    · rename_i q
      rcases List.mem_cons.mp h with rfl | h
      · have h1 := Int.fmod_nonneg_of_pos n (show (0 : Int) < 4 by decide)
        have h2 := Int.fmod_lt_of_pos n (show (0 : Int) < 4 by decide)
        omega
      · exact textGo_vals k _ w h
structure TextsOk (texts : List (List Int)) : Prop where
  len : texts.length ≤ 2
  short : ∀ text ∈ texts, text.length ≤ 5
  vals : ∀ text ∈ texts, ∀ w ∈ text, 0 ≤ w ∧ w < 3
structure PartOk (p : Part) : Prop where
  kind : 0 ≤ p.1 ∧ p.1 ≤ 7
  gap : 1 ≤ p.2.1 ∧ p.2.1 ≤ 3
  word : 0 ≤ p.2.2 ∧ p.2.2 < 3
theorem partOf_ok (n : Int) : PartOk (partOf n) := by
  have h1 := Int.fmod_nonneg_of_pos n (show (0 : Int) < 8 by decide)
  have h2 := Int.fmod_lt_of_pos n (show (0 : Int) < 8 by decide)
  have h3 := Int.fmod_nonneg_of_pos (n.fdiv 8) (show (0 : Int) < 3 by decide)
  have h4 := Int.fmod_lt_of_pos (n.fdiv 8) (show (0 : Int) < 3 by decide)
  have h5 := Int.fmod_nonneg_of_pos (n.fdiv 24) (show (0 : Int) < 3 by decide)
  have h6 := Int.fmod_lt_of_pos (n.fdiv 24) (show (0 : Int) < 3 by decide)
  refine ⟨⟨h1, ?_⟩, ⟨?_, ?_⟩, h5, h6⟩
  · show n.fmod 8 ≤ 7; omega
  · show 1 ≤ 1 + (n.fdiv 8).fmod 3; omega
  · show 1 + (n.fdiv 8).fmod 3 ≤ 3; omega
section
variable {texts : List (List Int)}
theorem textsR_at (hl : ∀ text ∈ texts, text.length ≤ 5) (kind : Int) {t p : Nat} (ht : t < texts.length) (hp : p < 10) : textsR kind texts (20 + 10 * (t : Int) + p) = if inText kind texts[t] p = true then some (wgt texts[t] p) else none := by
  have hg : texts.getD t [] = texts[t] := by rw [List.getD_eq_getElem?_getD, List.getElem?_eq_getElem ht]; rfl
  have e : listR kind (texts.getD t []) (20 + 10 * (t : Int) + p - (20 + 10 * (t : Int))) = if inText kind texts[t] p = true then some (wgt texts[t] p) else none := by
    rw [hg, show 20 + 10 * (t : Int) + p - (20 + 10 * (t : Int)) = (p : Int) by omega]
    unfold listR
    rw [Int.toNat_natCast]
    by_cases q : inText kind texts[t] p = true
    · rw [if_pos q, if_pos ⟨Int.natCast_nonneg _, q⟩]
    · rw [if_neg q, if_neg fun z => q z.2]
  rw [← e]
  rcases q : listR kind (texts.getD t []) (20 + 10 * (t : Int) + p - (20 + 10 * (t : Int))) with _ | v
  · rcases z : textsR kind texts (20 + 10 * (t : Int) + p) with _ | v
    · rfl
    · obtain ⟨k, hk, h⟩ := (textsR_iff hl _ _).mp z
      have h1 := listR_range h
      have h2 : (texts.getD k []).length ≤ 5 := by
        rw [List.getD_eq_getElem?_getD, List.getElem?_eq_getElem hk]; exact hl _ (List.getElem_mem hk)
      obtain rfl : k = t := by omega
      rw [h] at q; cases q
  · exact (textsR_iff hl _ _).mpr ⟨t, ht, q⟩
theorem textsR_rep (hl : ∀ text ∈ texts, text.length ≤ 5) {kind i w : Int} (h : textsR kind texts i = some w) : ∃ t p : Nat, t < texts.length ∧ p < 5 ∧ i = 20 + 10 * (t : Int) + p := by
  obtain ⟨k, hk, h⟩ := (textsR_iff hl _ _).mp h
  have h1 := listR_range h
  have h2 : (texts.getD k []).length ≤ 5 := by
    rw [List.getD_eq_getElem?_getD, List.getElem?_eq_getElem hk]; exact hl _ (List.getElem_mem hk)
  exact ⟨k, (i - (20 + 10 * (k : Int))).toNat, hk, by omega, by omega⟩
theorem hereR_at (hT : TextsOk texts) {part : Part} (hP : PartOk part) {t p : Nat} (ht : t < texts.length) (hp : p < 10) :
    hereR part texts (20 + 10 * (t : Int) + p) = if p < texts[t].length ∧ fitsP part (texts[t].getD p 0) = true then some (wgt texts[t] p) else none := by
  have hin : ∀ kind, inText kind texts[t] p = (decide (p < texts[t].length) && (kind == 3 || texts[t].getD p 0 == kind)) := fun _ => rfl
  have A := fun kind => textsR_at hT.short kind ht hp
  by_cases hlen : p < texts[t].length
  case neg =>
    rw [if_neg fun z => hlen z.1]
    have N : ∀ kind, textsR kind texts (20 + 10 * (t : Int) + p) = none := fun kind => by rw [A, hin, decide_eq_false hlen]; rfl
    unfold hereR
    split
    · exact N _
    · split
      · rw [notR_none (N _)]; exact N _
      · unfold uniR; rw [N, N]; rfl
  have hv := hT.vals _ (List.getElem_mem ht) (texts[t].getD p 0) (by
    rw [List.getD_eq_getElem?_getD, List.getElem?_eq_getElem hlen]; exact List.getElem_mem hlen)
  have hin : ∀ kind, inText kind texts[t] p = (kind == 3 || texts[t].getD p 0 == kind) := fun kind => by rw [hin, decide_eq_true hlen]; rfl
  have A : ∀ kind, textsR kind texts (20 + 10 * (t : Int) + p) = if (kind == 3 || texts[t].getD p 0 == kind) = true then some (wgt texts[t] p) else none := fun kind => by rw [A, hin]
  have hA : ∀ b : Bool, (if p < texts[t].length ∧ b = true then some (wgt texts[t] p) else none) = if b = true then some (wgt texts[t] p) else none := fun b => by
    by_cases q : b = true
    · rw [if_pos q, if_pos ⟨hlen, q⟩]
    · rw [if_neg q, if_neg fun z => q z.2]
  rw [hA]
  generalize texts[t].getD p 0 = x at *
  have hk := hP.kind
  have hw := hP.word
  unfold hereR fitsP
  by_cases h4 : part.1 < 4
  · rw [if_pos h4, A]
    by_cases h3 : part.1 < 3
    · rw [if_pos h3, beq_eq_false_iff_ne.mpr (show part.1 ≠ 3 by omega)]; rfl
    · have h3 : part.1 = 3 := by omega
      rw [h3]; rfl
  · rw [if_neg h4, if_neg (show ¬ part.1 < 3 by omega), if_neg (show ¬ part.1 = 3 by omega)]
    by_cases h7 : part.1 = 7
    · rw [if_pos h7, if_pos h7]
      unfold notR
      rw [A, A, beq_eq_false_iff_ne.mpr (show part.2.2 ≠ 3 by omega)]
      by_cases q : x = part.2.2
      · rw [q]; simp
      · rw [beq_eq_false_iff_ne.mpr q, bne_iff_ne.mpr q]; rfl
    · rw [if_neg h7, if_neg h7]
      unfold uniR
      rw [A, A]
      have h5 : part.1 - 4 = 0 ∨ part.1 - 4 = 1 ∨ part.1 - 4 = 2 := by omega
      have h6 : x = 0 ∨ x = 1 ∨ x = 2 := by omega
      rcases h5 with h5 | h5 | h5 <;> rcases h6 with h6 | h6 | h6 <;> rw [h5, h6] <;> rfl
theorem hereR_rep (hT : TextsOk texts) {part : Part} {i w : Int} (h : hereR part texts i = some w) : ∃ t p : Nat, t < texts.length ∧ p < 5 ∧ i = 20 + 10 * (t : Int) + p := by
  unfold hereR at h
  split at h
  · exact textsR_rep hT.short h
  · split at h
    · unfold notR at h
      split at h
      · exact textsR_rep hT.short h
      · cases h
    · unfold uniR at h
      rcases q : textsR (oneOf (part.1 - 4)) texts i with _ | v
      · rw [q] at h; exact textsR_rep hT.short h
      · exact textsR_rep hT.short q
/-- the tree's postings -/
theorem treeR_at (hT : TextsOk texts) : ∀ (ps : List Part), ps ≠ [] → (∀ p ∈ ps, PartOk p) → (∀ t p : Nat, ∀ ht : t < texts.length, p < 10 → treeR texts ps (20 + 10 * (t : Int) + p) = tsum texts[t] ps p) ∧
    ∀ i w, treeR texts ps i = some w → ∃ t p : Nat, t < texts.length ∧ p < 5 ∧ i = 20 + 10 * (t : Int) + p
  | [], h, _ => (h rfl).elim
  | part :: [], _, hP => by
    refine ⟨fun t p ht hp => ?_, fun i w h => hereR_rep hT h⟩
    show hereR part texts _ = _
    rw [hereR_at hT (hP part (List.mem_cons_self)) ht hp]
    unfold tsum waysP
    by_cases q : p < texts[t].length ∧ fitsP part (texts[t].getD p 0) = true
    · rw [if_pos q, if_pos q, if_neg (by simp)]
      simp [sumGo, rowSum]
    · rw [if_neg q, if_neg q, if_pos rfl]
  | part :: q :: rest, _, hP => by
    obtain ⟨h1, h2⟩ := treeR_at hT (q :: rest) (List.cons_ne_nil _ _) fun p hp => hP p (List.mem_cons_of_mem _ hp)
    have hq := (hP q (List.mem_cons_of_mem _ List.mem_cons_self)).gap
    refine ⟨fun t p ht hp => ?_, fun i w h => ?_⟩
    · show int2 (hereR part texts _) (ups (treeR texts (q :: rest)) q.2.1.toNat _) = _
      rw [hereR_at hT (hP part List.mem_cons_self) ht hp]
      by_cases c : p < texts[t].length ∧ fitsP part (texts[t].getD p 0) = true
      case neg =>
        rw [if_neg c]
        unfold tsum waysP
        rw [if_neg c, if_pos rfl]; rfl
      rw [if_pos c]
      have h5 := hT.short _ (List.getElem_mem ht)
      have hup := ups_val texts[t] (q :: rest) (treeR texts (q :: rest)) (20 + 10 * (t : Int) + p) p q.2.1.toNat (fun j j1 j2 => by
        rw [show 20 + 10 * (t : Int) + p + j = 20 + 10 * (t : Int) + ((p + j : Nat) : Int) by omega]
        exact h1 t (p + j) ht (by omega)) q.2.1.toNat (by omega) (Nat.le_refl _)
      rw [hup]
      have hw : waysP texts[t] (part :: q :: rest) p = (nextW texts[t] (q :: rest) p q.2.1.toNat).map (p :: ·) := by
        show (if _ then _ else _) = _
        rw [if_pos c]
        unfold nextW
        rw [List.map_flatMap]
      unfold tsum
      rw [hw]
      by_cases e : nextW texts[t] (q :: rest) p q.2.1.toNat = []
      · rw [if_pos e, e]; rfl
      · rw [if_neg e, if_neg (by simpa using e), sumGo_nil _ _ e]; rfl
    · have h : int2 (hereR part texts i) (ups (treeR texts (q :: rest)) q.2.1.toNat i) = some w := h
      rcases z : hereR part texts i with _ | v
      · rw [z] at h; cases h
      · exact hereR_rep hT z
end
noncomputable def ListAt0 (c : Cx) (a : Addr) (vs : List Value) : Prop := c.h₀.IsList a vs.toArray
inductive DictN (c : Cx) (σ : AH) (d : Addr) (kvs : List (Int × Value)) : Prop
  | mk (o : Obj) (h1 : σ d = some (.obj o)) (h2 : o.IsDictOf (intKind Hd.pw c.w) kvs) (h3 : (d == sysModules) = false) : DictN c σ d kvs
section
variable {c : Cx}
theorem DictN.off {σ σ' : AH} {d : Addr} {kvs : List (Int × Value)} (h : DictN c σ d kvs) (e : ∀ o, σ d = some (.obj o) → σ' d = some (.obj o)) : DictN c σ' d kvs := by
  obtain ⟨o, q1, q2, q3⟩ := h
  exact ⟨o, e o q1, q2, q3⟩
theorem DictN.ne {σ : AH} {d y : Addr} {kvs : List (Int × Value)} (h : DictN c σ d kvs) {v : Option Value} (e : σ y = some (.cell v)) : d ≠ y := by
  obtain ⟨o, q1, q2, q3⟩ := h
  exact fun z => by rw [z, e] at q1; cases q1
theorem DictN.some {σ : AH} {d : Addr} {kvs : List (Int × Value)} (h : DictN c σ d kvs) : σ d ≠ none := by
  obtain ⟨o, q1, q2, q3⟩ := h
  exact fun z => by rw [z] at q1; cases q1
end
theorem isInt_of {prog : Program} {w : World} {k : Int} {v : Value} (h : (intKind prog w).is k v = true) : ∃ t, v = .int k t := by
  cases v <;> simp [intKind, Value.isInt] at h
  exact ⟨_, by rw [h]⟩
section
variable {α β : Type} {c : Cx} {m : Lc} {σ : AH} {env : Env}
theorem x_len_list0 {l : Addr} {vs : List Value} {Q : Value → Lc → AH → Prop} (e : ListAt0 c l vs) (hz : vs.length < 2 ^ 62) (h : ∀ t, Q (.int vs.length t) m σ) : XV c m σ (call (.builtin "len") [.ref l] []) Q := .mk fun s S =>
  call_len_list (let ⟨o, ho, r⟩ := e; ⟨o, S.f.keep _ _ ho, r⟩) (by rw [List.size_toArray]; omega) ⟨m, σ, S.tok _, by rw [List.size_toArray]; exact h _⟩
theorem x_list_item0 {value slice : Expr} {l : Addr} {vs : List Value} {k : Int} {t : Tok} {v : Value} {Q : Value → Lc → AH → Prop} (e : ListAt0 c l vs) (h0 : 0 ≤ k) (hk : k < 2 ^ 63) (hx : vs[k.toNat]? = some v) (h : Q v m σ)
    (hs : subscripted slice false (.ref l) (.int k t) = operate [.ref l, .int k t] (getItem (.ref l) (.int k t)) := by with_unfolding_all rfl) :
    XV c m σ (subscriptTail value slice (.ref l) (.int k t)) Q := .mk fun s S =>
  have hl : s.heap.IsList l vs.toArray := let ⟨o, ho, r⟩ := e; ⟨o, S.f.keep _ _ ho, r⟩
  tail_any hl.typeIs PySem.slot_list_getitem.lookup (wpAny_getItem_list hl h0 hk (by simpa using hx) ⟨m, σ, S, h⟩) hs
theorem x_ne_bool {a b : Bool} {Q : Value → Lc → AH → Prop} (h : Q (.bool (a != b)) m σ) : XV c m σ (compareOp .NotEq (.bool a) (.bool b)) Q := .mk fun _ S => PyProof.Rows.ne_bool ⟨m, σ, S, h⟩
-- dicts of whole numbers
theorem x_dict_empty {pos : Pos} {Q : Value → Lc → AH → Prop} (h : ∀ d o, σ d = none → DictN c (put σ d (.obj o)) d [] → Q (.ref d) m (put σ d (.obj o))) : XV c m σ (eval (.Dict [] [] pos) env) Q := .mk fun s S => by
  have z := S.newO { cls := .type "dict", data := .dict #[] } s.toks rfl
  refine wpAny_Dict_empty ⟨m, _, z.2, h _ _ z.1 ⟨_, put_self _ _ _, ?_, S.f.notModules (modules_low S.t.nolimit)⟩⟩
  obtain ⟨o, ho, hd⟩ := Heap.dictOf_iff.mp (Heap.DictOf.new (knd := intKind Hd.pw c.w) s.heap)
  rw [Heap.get?_push_size _ rfl] at ho
  cases ho
  exact hd
theorem x_set_item {o i value : Expr} {pos' pos : Pos} {Q : Flow → Lc → AH → Prop} (h : XV c m σ (eval value env) fun v m1 σ1 => XV c m1 σ1 (eval o env) fun ov m2 σ2 => XV c m2 σ2 (eval i env) fun iv m3 σ3 => XV c m3 σ3 (setItem ov iv v) fun _ => Q .next)
    (hs : swapsWith value (some (.Subscript o i pos')) pos.line env = pure false := by rfl) : XV c m σ (exec (.Assign [.Subscript o i pos'] value pos) env) Q := .mk fun s S =>
  wpAny_Assign_Subscript (wpAny_mono (h.run s S) (fun _ s1 ⟨_, _, S1, q1⟩ => wpAny_mono (q1.run s1 S1) (fun _ s2 ⟨_, _, S2, q2⟩ => wpAny_mono (q2.run s2 S2) (fun _ s3 ⟨_, _, S3, q3⟩ => q3.run s3 S3) fun _ _ e => e) fun _ _ e => e) fun _ _ e => e) hs
theorem x_dict_set {d : Addr} {kvs : List (Int × Value)} {k : Int} {t : Tok} {v : Value} {Q : Unit → Lc → AH → Prop} (e : DictN c σ d kvs) (hz : kvs.length ≤ sizeLine) (h : ∀ o, DictN c (put σ d (.obj o)) d (stored kvs k v) → Q () m (put σ d (.obj o))) :
    XV c m σ (setItem (.ref d) (.int k t) v) Q := .mk fun s S => by
  obtain ⟨o, e, hd, hm⟩ := e
  have g := S.nodes d _ e
  refine wpAny_setItem_pairs (knd := intKind Hd.pw c.w) (hsz := hz) (intKind_is _ _ k t) (Heap.dictOf_iff.mpr ⟨o, g, hd⟩) fun h' hm' hs => ?_
  obtain ⟨o', ho', hd'⟩ := Heap.dictOf_iff.mp hm'
  exact ⟨m, _, S.turn (t := s.toks + 1) (n' := .obj o') e ho' (fun a w => w) (fun a o w q => (hs.2 a w).trans q), h o' ⟨o', put_self _ _ _, hd', hm⟩⟩
theorem x_dict_get {value slice : Expr} {d : Addr} {kvs : List (Int × Value)} {k : Int} {t : Tok} {v : Value} {Q : Value → Lc → AH → Prop} (e : DictN c σ d kvs) (hv : valueAt kvs k = some v) (h : Q v m σ)
    (hs : subscripted slice false (.ref d) (.int k t) = operate [.ref d, .int k t] (getItem (.ref d) (.int k t)) := by with_unfolding_all rfl) (hg : ∀ r, letTemporaryGo value (.ref d) r = pure () := by intro _; with_unfolding_all rfl) :
    XV c m σ (subscriptTail value slice (.ref d) (.int k t)) Q := .mk fun s S => by
  obtain ⟨o, e, hd, hm⟩ := e
  have hD := Heap.dictOf_iff.mpr ⟨o, S.nodes d _ e, hd⟩
  exact subscriptTail_builtin hD.typeIs PySem.slot_dict_getitem.lookup (wpAny_getItem_of (intKind_is _ _ k t) hD.mapOf hv ⟨m, σ, S.tok _, h⟩) hs hg
theorem x_sorted_dict {d : Addr} {kvs : List (Int × Value)} {Q : Value → Lc → AH → Prop} (e : DictN c σ d kvs) (hz : kvs.length < 64) (hh : c.A.handled = none)
    (h : ∀ l vs ns, σ l = none → Ints vs ns → ns.Perm (kvs.map (·.1)) → ns.Pairwise (· ≤ ·) → Q (.ref l) m (put σ l (.list vs))) : XV c m σ (call (.builtin "sorted") [.ref d] []) Q := .mk fun s S => by
  obtain ⟨o, e, hd, hm⟩ := e
  have g := S.nodes d _ e
  obtain ⟨ep, hat⟩ := (Heap.dictOf_iff.mpr ⟨o, g, hd⟩ : s.heap.DictOf (intKind Hd.pw c.w) d kvs).dictAt
  refine kdu_sorted (kdl_dict (knd := intKind Hd.pw c.w) (kvs := kvs) (ep := ep) hm) hh S.f (others_news (d := s.heap.objs.size)) hat (Nat.le_trans (Nat.le_of_lt hz) (by decide)) fun D h' tk vs F' N' l1 hl hv => ?_
  have hI : Ints vs (kvs.map (·.1)) := by
    refine ⟨by rw [hl, List.length_map], fun j n hj => ?_⟩
    have hjl : j < vs.length := by rw [hl]; have := (List.getElem?_eq_some_iff.mp hj).1; rwa [List.length_map] at this
    obtain ⟨k, x, hk, his⟩ := hv j vs[j] (List.getElem?_eq_getElem hjl)
    rw [List.getElem?_map, hk] at hj
    cases hj
    obtain ⟨t, ht⟩ := isInt_of his
    exact ⟨t, by rw [List.getElem?_eq_getElem hjl, ht]⟩
  have gD : h'.get? D = some (seqObj "list" vs.toArray 0) := (N' _ (.head _)).1
  refine wpAny_call_entry PyProof.Rows.slot_list_sort ⟨_, gD, rfl⟩ PyProof.Rows.entry_list_sort (list_sort_tree gD hI.are (by omega) fun out ns' a1 a2 a3 => ⟨_, rfl, ?_⟩) (args_list_sort _)
  have inOth : ∀ y n a, σ y = some n → owns n y a → ∀ o, s.heap.get? a = some o → (a, o) ∈ others c.h₀ c.L s.heap.objs.size s.heap := fun y n a e' w o z => by
    have w' := S.out _ _ _ e' w
    exact mem_others.mpr ⟨w'.1, Nat.ne_of_lt (S.fresh e' w), w'.2, z⟩
  have old : ∀ b o, h'.get? b = some o → b ≠ D → (sortedHeap h' D vs out).get? b = some o := fun b o q hb => (sortedHeap_old hb (Heap.lt_size q)).trans q
  have noD : ∀ y n, σ y = some n → ¬ owns n y D := fun y n e' w => by
    obtain ⟨o, z⟩ := (S.nodes y n e').has D w
    exact Nat.lt_irrefl _ (l1 _ (inOth y n D e' w o z))
  have F2 : Fr c.h₀ c.L (sortedHeap h' D vs out) m := by
    obtain ⟨oL, es, ep', hL, hLr⟩ := F'.ns
    exact ⟨⟨oL, es, ep', old _ _ hL (fun z => (N' _ (.head _)).2.1 z.symm), hLr⟩, (fun a o q => old _ _ (F'.keep a o q) (fun z => by rw [z, (N' _ (.head _)).2.2] at q; cases q)), F'.above⟩
  have S1 : ST c m σ { s with heap := sortedHeap h' D vs out, toks := tk } :=
    ⟨S.k, S.t, F2, fun y n e' => (S.nodes y n e').keep fun a o w z => old _ _ (N' _ (.tail _ (inOth y n a e' w o z))).1 fun q => noD y n e' (q ▸ w), S.out, S.sep, S.gens, S.os⟩
  obtain ⟨en, hen⟩ := sortedHeap_at (out := out) gD
  have hDn : σ D = none := by
    rcases z : σ D with _ | n
    · rfl
    · exact (noD D n z (owns_self _ _)).elim
  have hi' : Ints out.toList ns' := by
    have aux : ∀ {vs : List Value} {ns : List Int}, IntsAre vs ns → Ints vs ns := by
      intro vs ns hh
      induction hh with
      | nil => exact Ints.nil
      | cons n t _ ih => exact ih.cons n t
    exact aux a1
  refine ⟨m, _, S1.add (x := D) (n := .list out.toList) ⟨en, by rw [Array.toArray_toList]; exact hen⟩ fun a w => ?_, h D _ ns' hDn hi' a2 a3⟩
  cases (show a = D from w)
  exact ⟨(N' _ (.head _)).2.1, (N' _ (.head _)).2.2, noD⟩
end
noncomputable def AllE (E : Value → Int → Prop) (ys : List Value) (ns : List Int) : Prop := ys.length = ns.length ∧ ∀ (j : Nat) n, ns[j]? = some n → ∃ y, ys[j]? = some y ∧ E y n
theorem AllE.nil {E : Value → Int → Prop} : AllE E [] [] := ⟨rfl, fun j n h => by simp at h⟩
theorem AllE.mono {E E' : Value → Int → Prop} {ys : List Value} {ns : List Int} (h : AllE E ys ns) (k : ∀ y n, E y n → E' y n) : AllE E' ys ns :=
  ⟨h.1, fun j n e => by obtain ⟨y, h1, h2⟩ := h.2 j n e; exact ⟨y, h1, k y n h2⟩⟩
theorem AllE.snoc {E : Value → Int → Prop} {ys : List Value} {ns : List Int} (h : AllE E ys ns) {y : Value} {n : Int} (e : E y n) : AllE E (ys ++ [y]) (ns ++ [n]) := by
  refine ⟨by simp [h.1], fun j x hx => ?_⟩
  by_cases q : j < ns.length
  · rw [List.getElem?_append_left q] at hx
    obtain ⟨y', h1, h2⟩ := h.2 j x hx
    exact ⟨y', by rw [List.getElem?_append_left (by rw [h.1]; exact q)]; exact h1, h2⟩
  · rw [List.getElem?_append_right (by omega)] at hx
    have : j - ns.length = 0 := by
      have := (List.getElem?_eq_some_iff.mp hx).1
      simp at this; omega
    rw [this] at hx
    cases hx
    exact ⟨y, by rw [List.getElem?_append_right (by rw [h.1]; omega), h.1, this]; rfl, e⟩
noncomputable def picks (script : List Int) (pl : List Nat) : List Int := pl.filterMap fun i => script[i]?
theorem picks_succ (script : List Int) (pl : List Nat) {j : Nat} (hj : j < pl.length) : picks script (pl.take (j + 1)) = picks script (pl.take j) ++ (match script[pl[j]]? with | some n => [n] | none => []) := by
  unfold picks
  rw [← List.take_append_getElem hj, List.filterMap_append]
  congr 1
  simp only [List.filterMap_cons, List.filterMap_nil]
  cases script[pl[j]]? <;> rfl
theorem picks_len (script : List Int) (pl : List Nat) : (picks script pl).length ≤ pl.length := List.length_filterMap_le _ _
noncomputable abbrev lawS : Stmt := Hd.stOf Hd.pw 30
noncomputable abbrev lawEnv (c : Cx) (fa : Addr) (cd : Value) : Env := envX "law" (Hd.fScope lawS) c.L fa cd [(S "low", c.L + 1 + 1), (S "script", c.L + 1)]
section
variable {c : Cx} {m : Lc} {σ : AH} {fa sa : Addr} {cd : Value} {sv : List Value} {script : List Int}
/-- texts = [_law_text(script[place]) for place in [0, 3] if place < len(script)] -/
theorem w_texts (r : Room c.A 60) (eS : σ (c.L + 1) = some (.cell (some (.ref sa)))) (hS : ListAt0 c sa sv) (hi : Ints sv script) (hz : script.length ≤ 63) {Q : Flow → Lc → AH → Prop}
    (h : ∀ ts tv σ', σ ts = none → Ext σ σ' → σ' ts = some (.list tv) → AllE (fun y n => ∃ a, y = .ref a ∧ TextAt σ' a (textOf n)) tv (picks script [0, 3]) → XV c (upd m "texts" (.ref ts)) σ' (execs ((Hd.fBody lawS).drop 1) (lawEnv c fa cd)) Q) :
    XV c m σ (execs (Hd.fBody lawS) (lawEnv c fa cd)) Q := by
  refine x_execs (by with_unfolding_all rfl) ?_
  refine x_comp_assign (cl := [(S "script", c.L + 1)]) (by with_unfolding_all rfl) ?_ (by with_unfolding_all rfl) (by rfl) (by decide) rfl (by rfl) (by rfl)
  refine x_list ?_
  repeat walk_at "g"
  intro t1
  repeat walk_at "g"
  intro t2
  repeat walk_at "g"
  refine x_newlist (by exact Nat.le_of_ble_eq_true rfl) fun il hil => ?_
  have Ei : Ext σ (Mine.put σ il (.list [.int 0 t1, .int 3 t2])) := (Ext.refl σ).put hil
  refine xcomp_loop (S := .list il [.int 0 t1, .int 3 t2]) (fun acc k ys σ' => Ext σ σ' ∧ AllE (fun y n => ∃ a, y = .ref a ∧ a ≠ acc ∧ TextAt σ' a (textOf n)) ys (picks script (([0, 3] : List Nat).take k)))
    ⟨rfl, put_self _ _ _⟩ r.2.2 (show 2 ≤ sizeLine by decide) (fun acc σ' _ h => ⟨Ei.trans h, AllE.nil⟩) ?_ ?_ ?_ (by decide) (by rfl) (by rfl)
  · rintro acc j ys σ' σ'' y0 ⟨q1, q2⟩ _ q4 q5 q6
    refine ⟨q1.ins (Ei.none q4) q6, q2.mono ?_⟩
    rintro y n ⟨a, rfl, h1, tv, h2, h3⟩
    refine ⟨a, rfl, h1, tv, (q6 a fun z => ?_).trans h2, h3⟩
    rcases q5 with q5 | ⟨o, q5⟩
    · exact h1 (z.trans q5)
    · rw [← z, h2] at q5; cases q5
  · rintro c' it' acc j ys m3 σ' v o' hcA g1 g2 ⟨q1, q2⟩ g3 g4 gb hj hv Q1 Q2 hy hx
    have hj : j < ([0, 3] : List Nat).length := hj
    obtain ⟨tv, rfl⟩ : ∃ tv, v = .int (([0, 3] : List Nat)[j] : Nat) tv := by
      have hv : [Value.int 0 t1, .int 3 t2][j]? = some v := hv
      match j, hj, hv with
      | 0, _, hv => cases hv; exact ⟨_, rfl⟩
      | 1, _, hv => cases hv; exact ⟨_, rfl⟩
    have hS' : ListAt0 c' sa sv := let ⟨o, ho, z⟩ := hS; ⟨o, hcA.2.1 _ _ ho, z⟩
    have r' : Room c'.A 60 := by rw [hcA.1]; exact r
    have hP := picks_succ script [0, 3] hj
    generalize ([0, 3] : List Nat)[j] = p at *
    refine x_tests_one ?_
    repeat walk_at "g"
    refine x_nameE (by rfl) ?_
    repeat walk_at "g"
    refine x_builtinE b_len.1 b_len.2 (by decide) ?_
    refine x_cwb ?_
    repeat walk_at "g"
    refine x_cellE (by rfl) (q1.some eS) ?_
    repeat walk_at "g"
    refine x_len_list0 hS' (by rw [hi.1]; omega) fun t3 => ?_
    repeat walk_at "g"
    rw [hi.1]
    by_cases hp : p < script.length
    · refine ite_yes (decide_eq_true (by omega)) ?_
      obtain ⟨tw, hw⟩ := hi.2 p _ (List.getElem?_eq_getElem hp)
      rw [List.getElem?_eq_getElem hp] at hP
      repeat walk_at "g"
      refine x_globalE g_law_text.1 ?_
      refine x_cw g_law_text.2 ?_
      repeat walk_at "g"
      refine x_cellE (by rfl) (q1.some eS) ?_
      repeat walk_at "g"
      refine x_nameE (by rfl) ?_
      refine x_list_item0 hS' (by omega) (by omega) (by rw [Int.toNat_natCast]; exact hw) ?_
      repeat walk_at "g"
      refine x_runs (r1179 (bb := 59) _ _) r' fun v σ2 q => ?_
      obtain ⟨l, lv, rfl, hl, el, il2, E2⟩ := q
      refine hy _ _ _ (E2.some g3) (E2.some g4) (E2.some gb) ⟨q1.trans E2, ?_⟩
      rw [hP]
      refine AllE.snoc (q2.mono ?_) ⟨l, rfl, (fun z => by rw [z, g3] at hl; cases hl), lv, el, il2⟩
      rintro y n ⟨a, rfl, h1, tv, h2, h3⟩
      exact ⟨a, rfl, h1, tv, E2.some h2, h3⟩
    · refine ite_no (by rw [decide_eq_false (by omega)]; decide) ?_
      rw [List.getElem?_eq_none (by omega)] at hP
      refine hx _ _ g3 g4 gb ⟨q1, ?_⟩
      rw [hP]
      show AllE _ _ (_ ++ [])
      rw [List.append_nil]; exact q2
  · rintro acc ys σ' hacc ⟨q1, q2⟩ ea
    refine h acc ys σ' (Ei.none hacc) q1 ea (q2.mono ?_)
    rintro y n ⟨a, rfl, _, h2⟩
    exact ⟨a, rfl, h2⟩
end
section
variable {c : Cx} {m : Lc} {σ : AH} {fa sa : Addr} {cd : Value} {sv : List Value} {script : List Int}
/-- parts = [_law_part(script[place]) for place in [1, 4, 7] if place < len(script)] -/
theorem w_parts (r : Room c.A 60) (eS : σ (c.L + 1) = some (.cell (some (.ref sa)))) (hS : ListAt0 c sa sv) (hi : Ints sv script) (hz : script.length ≤ 63) {Q : Flow → Lc → AH → Prop}
    (h : ∀ ts tv σ', σ ts = none → Ext σ σ' → σ' ts = some (.list tv) → AllE (fun y n => ∃ a, y = .ref a ∧ PartAt σ' a (partOf n)) tv (picks script [1, 4, 7]) → XV c (upd m "parts" (.ref ts)) σ' (execs ((Hd.fBody lawS).drop 3) (lawEnv c fa cd)) Q) :
    XV c m σ (execs ((Hd.fBody lawS).drop 2) (lawEnv c fa cd)) Q := by
  refine x_execs (by with_unfolding_all rfl) ?_
  refine x_comp_assign (cl := [(S "script", c.L + 1)]) (by with_unfolding_all rfl) ?_ (by with_unfolding_all rfl) (by rfl) (by decide) rfl (by rfl) (by rfl)
  refine x_list ?_
  repeat walk_at "g"
  intro t1
  repeat walk_at "g"
  intro t2
  repeat walk_at "g"
  intro t3
  repeat walk_at "g"
  refine x_newlist (by exact Nat.le_of_ble_eq_true rfl) fun il hil => ?_
  have Ei : Ext σ (Mine.put σ il (.list [.int 1 t1, .int 4 t2, .int 7 t3])) := (Ext.refl σ).put hil
  refine xcomp_loop (S := .list il [.int 1 t1, .int 4 t2, .int 7 t3]) (fun acc k ys σ' => Ext σ σ' ∧ AllE (fun y n => ∃ a, y = .ref a ∧ a ≠ acc ∧ PartAt σ' a (partOf n)) ys (picks script (([1, 4, 7] : List Nat).take k)))
    ⟨rfl, put_self _ _ _⟩ r.2.2 (show 3 ≤ sizeLine by decide) (fun acc σ' _ h => ⟨Ei.trans h, AllE.nil⟩) ?_ ?_ ?_ (by decide) (by rfl) (by rfl)
  · rintro acc j ys σ' σ'' y0 ⟨q1, q2⟩ _ q4 q5 q6
    refine ⟨q1.ins (Ei.none q4) q6, q2.mono ?_⟩
    rintro y n ⟨a, rfl, h1, u1, u2, u3, h2⟩
    refine ⟨a, rfl, h1, u1, u2, u3, (q6 a fun z => ?_).trans h2⟩
    rcases q5 with q5 | ⟨o, q5⟩
    · exact h1 (z.trans q5)
    · rw [← z, h2] at q5; cases q5
  · rintro c' it' acc j ys m3 σ' v o' hcA g1 g2 ⟨q1, q2⟩ g3 g4 gb hj hv Q1 Q2 hy hx
    have hj : j < ([1, 4, 7] : List Nat).length := hj
    obtain ⟨tv, rfl⟩ : ∃ tv, v = .int (([1, 4, 7] : List Nat)[j] : Nat) tv := by
      have hv : [Value.int 1 t1, .int 4 t2, .int 7 t3][j]? = some v := hv
      match j, hj, hv with
      | 0, _, hv => cases hv; exact ⟨_, rfl⟩
      | 1, _, hv => cases hv; exact ⟨_, rfl⟩
      | 2, _, hv => cases hv; exact ⟨_, rfl⟩
    have hS' : ListAt0 c' sa sv := let ⟨o, ho, z⟩ := hS; ⟨o, hcA.2.1 _ _ ho, z⟩
    have r' : Room c'.A 60 := by rw [hcA.1]; exact r
    have hP := picks_succ script [1, 4, 7] hj
    generalize ([1, 4, 7] : List Nat)[j] = p at *
    refine x_tests_one ?_
    repeat walk_at "g"
    refine x_nameE (by rfl) ?_
    repeat walk_at "g"
    refine x_builtinE b_len.1 b_len.2 (by decide) ?_
    refine x_cwb ?_
    repeat walk_at "g"
    refine x_cellE (by rfl) (q1.some eS) ?_
    repeat walk_at "g"
    refine x_len_list0 hS' (by rw [hi.1]; omega) fun t5 => ?_
    repeat walk_at "g"
    rw [hi.1]
    by_cases hp : p < script.length
    · refine ite_yes (decide_eq_true (by omega)) ?_
      obtain ⟨tw, hw⟩ := hi.2 p _ (List.getElem?_eq_getElem hp)
      rw [List.getElem?_eq_getElem hp] at hP
      repeat walk_at "g"
      refine x_globalE g_law_part.1 ?_
      refine x_cw g_law_part.2 ?_
      repeat walk_at "g"
      refine x_cellE (by rfl) (q1.some eS) ?_
      repeat walk_at "g"
      refine x_nameE (by rfl) ?_
      refine x_list_item0 hS' (by omega) (by omega) (by rw [Int.toNat_natCast]; exact hw) ?_
      repeat walk_at "g"
      refine x_runs (r1186 (bb := 59) _ _) r' fun v σ2 q => ?_
      obtain ⟨l, rfl, hl, ⟨u1, u2, u3, el⟩, E2⟩ := q
      refine hy _ _ _ (E2.some g3) (E2.some g4) (E2.some gb) ⟨q1.trans E2, ?_⟩
      rw [hP]
      refine AllE.snoc (q2.mono ?_) ⟨l, rfl, (fun z => by rw [z, g3] at hl; cases hl), u1, u2, u3, el⟩
      rintro y n ⟨a, rfl, h1, u1, u2, u3, h2⟩
      exact ⟨a, rfl, h1, u1, u2, u3, E2.some h2⟩
    · refine ite_no (by rw [decide_eq_false (by omega)]; decide) ?_
      rw [List.getElem?_eq_none (by omega)] at hP
      refine hx _ _ g3 g4 gb ⟨q1, ?_⟩
      rw [hP]
      show AllE _ _ (_ ++ [])
      rw [List.append_nil]; exact q2
  · rintro acc ys σ' hacc ⟨q1, q2⟩ ea
    refine h acc ys σ' (Ei.none hacc) q1 ea (q2.mono ?_)
    rintro y n ⟨a, rfl, _, h2⟩
    exact ⟨a, rfl, h2⟩
/-- deeds = [script[place] for place in [2, 5, 6, 8] if place < len(script)] -/
theorem w_deeds (r : Room c.A 60) (eS : σ (c.L + 1) = some (.cell (some (.ref sa)))) (hS : ListAt0 c sa sv) (hi : Ints sv script) (hz : script.length ≤ 63) {Q : Flow → Lc → AH → Prop}
    (h : ∀ ts tv σ', σ ts = none → Ext σ σ' → σ' ts = some (.list tv) → Ints tv (picks script [2, 5, 6, 8]) → XV c (upd m "deeds" (.ref ts)) σ' (execs ((Hd.fBody lawS).drop 5) (lawEnv c fa cd)) Q) :
    XV c m σ (execs ((Hd.fBody lawS).drop 4) (lawEnv c fa cd)) Q := by
  refine x_execs (by with_unfolding_all rfl) ?_
  refine x_comp_assign (cl := [(S "script", c.L + 1)]) (by with_unfolding_all rfl) ?_ (by with_unfolding_all rfl) (by rfl) (by decide) rfl (by rfl) (by rfl)
  refine x_list ?_
  repeat walk_at "g"
  intro t1
  repeat walk_at "g"
  intro t2
  repeat walk_at "g"
  intro t3
  repeat walk_at "g"
  intro t4
  repeat walk_at "g"
  refine x_newlist (by exact Nat.le_of_ble_eq_true rfl) fun il hil => ?_
  have Ei : Ext σ (Mine.put σ il (.list [.int 2 t1, .int 5 t2, .int 6 t3, .int 8 t4])) := (Ext.refl σ).put hil
  refine xcomp_loop (S := .list il [.int 2 t1, .int 5 t2, .int 6 t3, .int 8 t4]) (fun acc k ys σ' => Ext σ σ' ∧ Ints ys (picks script (([2, 5, 6, 8] : List Nat).take k)))
    ⟨rfl, put_self _ _ _⟩ r.2.2 (show 4 ≤ sizeLine by decide) (fun acc σ' _ h => ⟨Ei.trans h, Ints.nil⟩) ?_ ?_ ?_ (by decide) (by rfl) (by rfl)
  · rintro acc j ys σ' σ'' y0 ⟨q1, q2⟩ _ q4 q5 q6
    exact ⟨q1.ins (Ei.none q4) q6, q2⟩
  · rintro c' it' acc j ys m3 σ' v o' hcA g1 g2 ⟨q1, q2⟩ g3 g4 gb hj hv Q1 Q2 hy hx
    have hj : j < ([2, 5, 6, 8] : List Nat).length := hj
    obtain ⟨tv, rfl⟩ : ∃ tv, v = .int (([2, 5, 6, 8] : List Nat)[j] : Nat) tv := by
      have hv : [Value.int 2 t1, .int 5 t2, .int 6 t3, .int 8 t4][j]? = some v := hv
      match j, hj, hv with
      | 0, _, hv => cases hv; exact ⟨_, rfl⟩
      | 1, _, hv => cases hv; exact ⟨_, rfl⟩
      | 2, _, hv => cases hv; exact ⟨_, rfl⟩
      | 3, _, hv => cases hv; exact ⟨_, rfl⟩
    have hS' : ListAt0 c' sa sv := let ⟨o, ho, z⟩ := hS; ⟨o, hcA.2.1 _ _ ho, z⟩
    have r' : Room c'.A 60 := by rw [hcA.1]; exact r
    have hP := picks_succ script [2, 5, 6, 8] hj
    generalize ([2, 5, 6, 8] : List Nat)[j] = p at *
    refine x_tests_one ?_
    repeat walk_at "g"
    refine x_nameE (by rfl) ?_
    repeat walk_at "g"
    refine x_builtinE b_len.1 b_len.2 (by decide) ?_
    refine x_cwb ?_
    repeat walk_at "g"
    refine x_cellE (by rfl) (q1.some eS) ?_
    repeat walk_at "g"
    refine x_len_list0 hS' (by rw [hi.1]; omega) fun t5 => ?_
    repeat walk_at "g"
    rw [hi.1]
    by_cases hp : p < script.length
    · refine ite_yes (decide_eq_true (by omega)) ?_
      obtain ⟨tw, hw⟩ := hi.2 p _ (List.getElem?_eq_getElem hp)
      rw [List.getElem?_eq_getElem hp] at hP
      repeat walk_at "g"
      refine x_cellE (by rfl) (q1.some eS) ?_
      repeat walk_at "g"
      refine x_nameE (by rfl) ?_
      refine x_list_item0 hS' (by omega) (by omega) (by rw [Int.toNat_natCast]; exact hw) ?_
      refine hy _ _ _ g3 g4 gb ⟨q1, ?_⟩
      rw [hP]
      exact q2.snoc _ _
    · refine ite_no (by rw [decide_eq_false (by omega)]; decide) ?_
      rw [List.getElem?_eq_none (by omega)] at hP
      refine hx _ _ g3 g4 gb ⟨q1, ?_⟩
      rw [hP]
      show Ints _ (_ ++ [])
      rw [List.append_nil]; exact q2
  · rintro acc ys σ' hacc ⟨q1, q2⟩ ea
    exact h acc ys σ' (Ei.none hacc) q1 ea q2
end
noncomputable def textsOf (script : List Int) : List (List Int) := if picks script [0, 3] = [] then [[0, 1, 0, 2]] else (picks script [0, 3]).map textOf
noncomputable def partsOf (script : List Int) : List Part := if picks script [1, 4, 7] = [] then [(0, 1, 0), (3, 2, 0)] else (picks script [1, 4, 7]).map partOf
theorem textsOf_ok (script : List Int) : TextsOk (textsOf script) := by
  unfold textsOf
  split
  · refine ⟨by decide, fun text h => ?_, fun text h w hw => ?_⟩
    · rcases List.mem_singleton.mp h with rfl; decide
    · rcases List.mem_singleton.mp h with rfl
      simp at hw
      omega
  · refine ⟨by rw [List.length_map]; exact picks_len script [0, 3], fun text h => ?_, fun text h w hw => ?_⟩
    · obtain ⟨n, _, rfl⟩ := List.mem_map.mp h
      exact textGo_len 5 n
    · obtain ⟨n, _, rfl⟩ := List.mem_map.mp h
      exact textGo_vals 5 n w hw
theorem partsOf_ok (script : List Int) : partsOf script ≠ [] ∧ (partsOf script).length ≤ 3 ∧ ∀ p ∈ partsOf script, PartOk p := by
  unfold partsOf
  split
  · refine ⟨by simp, by decide, fun p h => ?_⟩
    rcases List.mem_cons.mp h with rfl | h
    · exact ⟨by decide, by decide, by decide⟩
    · rcases List.mem_singleton.mp h with rfl
      exact ⟨by decide, by decide, by decide⟩
  · rename_i q
    refine ⟨by simpa using q, by rw [List.length_map]; exact picks_len script [1, 4, 7], fun p h => ?_⟩
    obtain ⟨n, _, rfl⟩ := List.mem_map.mp h
    exact partOf_ok n
section
variable {c : Cx} {m : Lc} {σ : AH} {fa sa : Addr} {cd : Value} {script : List Int}
theorem w_texts0 {ts : Addr} {tv : List Value} (hm : m "texts" = some (.ref ts)) (e : σ ts = some (.list tv)) (hA : AllE (fun y n => ∃ a, y = .ref a ∧ TextAt σ a (textOf n)) tv (picks script [0, 3])) {Q : Flow → Lc → AH → Prop}
    (h : ∀ m' ts' σ', m' "texts" = some (.ref ts') → Ext σ σ' → TextsAt σ' ts' (textsOf script) → XV c m' σ' (execs ((Hd.fBody lawS).drop 2) (lawEnv c fa cd)) Q) :
    XV c m σ (execs ((Hd.fBody lawS).drop 1) (lawEnv c fa cd)) Q := by
  have hl : tv.length ≤ 2 := by rw [hA.1]; exact picks_len script [0, 3]
  refine x_execs (by with_unfolding_all rfl) ?_
  repeat walk_at "g"
  refine x_builtin b_len.1 b_len.2 (by decide) ?_
  refine x_cwb ?_
  repeat walk_at "g"
  refine x_len_list e (by omega) fun t1 => ?_
  repeat walk_at "g"
  intro t2
  repeat walk_at "g"
  by_cases q : picks script [0, 3] = []
  · have hl0 : tv.length = 0 := by rw [hA.1, q]; rfl
    refine ite_yes (by rw [hl0]; rfl) ?_
    repeat walk_at "g"
    refine x_list ?_
    repeat walk_at "g"
    refine x_list ?_
    repeat walk_at "g"
    intro t3
    repeat walk_at "g"
    intro t4
    repeat walk_at "g"
    intro t5
    repeat walk_at "g"
    intro t6
    repeat walk_at "g"
    refine x_newlist (by exact Nat.le_of_ble_eq_true rfl) fun a ha => ?_
    repeat walk_at "g"
    refine x_newlist (by exact Nat.le_of_ble_eq_true rfl) fun l hl => ?_
    walk_at "g"
    walk_at "g"
    have E1 : Ext σ (Mine.put σ a (.list [.int 0 t3, .int 1 t4, .int 0 t5, .int 2 t6])) := (Ext.refl σ).put ha
    have hne : a ≠ l := fun z => by rw [← z, put_self] at hl; cases hl
    refine h _ l _ rfl (E1.put (E1.none hl)) ?_
    unfold textsOf
    rw [if_pos q]
    refine ⟨_, put_self _ _ _, rfl, fun k t hk => ?_⟩
    cases k with
    | zero =>
      cases hk
      refine ⟨a, rfl, _, by rw [put_ne hne]; exact put_self _ _ _, ?_⟩
      exact (((Ints.nil.cons 2 t6).cons 0 t5).cons 1 t4).cons 0 t3
    | succ k => simp at hk
  · have hl0 : tv.length ≠ 0 := by rw [hA.1]; exact fun z => q (List.length_eq_zero_iff.mp z)
    refine ite_no (by rw [beq_eq_false_iff_ne.mpr (by omega)]; decide) ?_
    walk_at "g"
    refine h m ts σ hm (Ext.refl σ) ?_
    unfold textsOf
    rw [if_neg q]
    refine ⟨tv, e, by rw [List.length_map]; exact hA.1, fun k t hk => ?_⟩
    rw [List.getElem?_map] at hk
    rcases z : (picks script [0, 3])[k]? with _ | n
    · rw [z] at hk; cases hk
    · rw [z] at hk; cases hk
      obtain ⟨y, h1, a, rfl, h2⟩ := hA.2 k n z
      exact ⟨a, h1, h2⟩
theorem w_parts0 {ps : Addr} {pv : List Value} (hm : m "parts" = some (.ref ps)) (e : σ ps = some (.list pv)) (hA : AllE (fun y n => ∃ a, y = .ref a ∧ PartAt σ a (partOf n)) pv (picks script [1, 4, 7])) {Q : Flow → Lc → AH → Prop}
    (h : ∀ m' ps' σ', m' "parts" = some (.ref ps') → m' "texts" = m "texts" → Ext σ σ' → PartsAt σ' ps' (partsOf script) → XV c m' σ' (execs ((Hd.fBody lawS).drop 4) (lawEnv c fa cd)) Q) :
    XV c m σ (execs ((Hd.fBody lawS).drop 3) (lawEnv c fa cd)) Q := by
  have hl : pv.length ≤ 3 := by rw [hA.1]; exact picks_len script [1, 4, 7]
  refine x_execs (by with_unfolding_all rfl) ?_
  repeat walk_at "g"
  refine x_builtin b_len.1 b_len.2 (by decide) ?_
  refine x_cwb ?_
  repeat walk_at "g"
  refine x_len_list e (by omega) fun t1 => ?_
  repeat walk_at "g"
  intro t2
  repeat walk_at "g"
  by_cases q : picks script [1, 4, 7] = []
  · have hl0 : pv.length = 0 := by rw [hA.1, q]; rfl
    refine ite_yes (by rw [hl0]; rfl) ?_
    repeat walk_at "g"
    refine x_list ?_
    repeat walk_at "g"
    refine x_tuple ?_
    repeat walk_at "g"
    intro t3
    repeat walk_at "g"
    intro t4
    repeat walk_at "g"
    intro t5
    repeat walk_at "g"
    refine x_newtuple (by exact Nat.le_of_ble_eq_true rfl) fun a ha => ?_
    repeat walk_at "g"
    refine x_tuple ?_
    repeat walk_at "g"
    intro t6
    repeat walk_at "g"
    intro t7
    repeat walk_at "g"
    intro t8
    repeat walk_at "g"
    refine x_newtuple (by exact Nat.le_of_ble_eq_true rfl) fun b hb => ?_
    repeat walk_at "g"
    refine x_newlist (by exact Nat.le_of_ble_eq_true rfl) fun l hl => ?_
    walk_at "g"
    walk_at "g"
    have E1 : Ext σ (Mine.put σ a (.tup [.int 0 t3, .int 1 t4, .int 0 t5])) := (Ext.refl σ).put ha
    have E2 := E1.put (n := .tup [.int 3 t6, .int 2 t7, .int 0 t8]) (E1.none hb)
    have G2 : Ext (Mine.put σ a (.tup [.int 0 t3, .int 1 t4, .int 0 t5])) (Mine.put (Mine.put σ a (.tup [.int 0 t3, .int 1 t4, .int 0 t5])) b (.tup [.int 3 t6, .int 2 t7, .int 0 t8])) := (Ext.refl _).put hb
    have G3 := (Ext.refl (Mine.put (Mine.put σ a (.tup [.int 0 t3, .int 1 t4, .int 0 t5])) b (.tup [.int 3 t6, .int 2 t7, .int 0 t8]))).put (n := .list [.ref a, .ref b]) hl
    refine h _ l _ rfl rfl (E2.put (E2.none hl)) ?_
    unfold partsOf
    rw [if_pos q]
    refine ⟨_, put_self _ _ _, rfl, fun k t hk => ?_⟩
    match k, hk with
    | 0, hk =>
      cases hk
      exact ⟨a, rfl, t3, t4, t5, G3.some (G2.some (put_self _ _ _))⟩
    | 1, hk =>
      cases hk
      exact ⟨b, rfl, t6, t7, t8, G3.some (put_self _ _ _)⟩
    | k + 2, hk => simp at hk
  · have hl0 : pv.length ≠ 0 := by rw [hA.1]; exact fun z => q (List.length_eq_zero_iff.mp z)
    refine ite_no (by rw [beq_eq_false_iff_ne.mpr (by omega)]; decide) ?_
    walk_at "g"
    refine h m ps σ hm rfl (Ext.refl σ) ?_
    unfold partsOf
    rw [if_neg q]
    refine ⟨pv, e, by rw [List.length_map]; exact hA.1, fun k t hk => ?_⟩
    rw [List.getElem?_map] at hk
    rcases z : (picks script [1, 4, 7])[k]? with _ | n
    · rw [z] at hk; cases hk
    · rw [z] at hk; cases hk
      obtain ⟨y, h1, a, rfl, h2⟩ := hA.2 k n z
      exact ⟨a, h1, h2⟩
end
noncomputable def rowE (text : List Int) (parts : List Part) (t : Nat) : Nat → List (Int × Int)
  | 0 => []
  | p + 1 => rowE text parts t p ++ (match tsum text parts p with | some w => [(20 + 10 * (t : Int) + p, w)] | none => [])
noncomputable def entriesTo (texts : List (List Int)) (parts : List Part) : Nat → List (Int × Int)
  | 0 => []
  | t + 1 => entriesTo texts parts t ++ rowE (texts.getD t []) parts t (texts.getD t []).length
theorem rowE_mem {text : List Int} {parts : List Part} {t : Nat} {k w : Int} : ∀ {n : Nat}, (k, w) ∈ rowE text parts t n ↔ ∃ p : Nat, p < n ∧ k = 20 + 10 * (t : Int) + p ∧ tsum text parts p = some w
  | 0 => ⟨(fun h => by cases h), fun ⟨p, h, _⟩ => by omega⟩
  | n + 1 => by
    rw [rowE, List.mem_append, rowE_mem]
    constructor
    · rintro (⟨p, h1, h2⟩ | h)
      · exact ⟨p, by omega, h2⟩
      · rcases q : tsum text parts n with _ | v
        · rw [q] at h; cases h
        · rw [q] at h
          cases List.mem_singleton.mp h
          exact ⟨n, by omega, rfl, q⟩
    · rintro ⟨p, h1, h2, h3⟩
      by_cases q : p < n
      · exact .inl ⟨p, q, h2, h3⟩
      · obtain rfl : p = n := by omega
        right
        rw [h3, h2]; exact List.mem_singleton.mpr rfl
theorem rowE_sorted (text : List Int) (parts : List Part) (t : Nat) : ∀ n : Nat, ((rowE text parts t n).map (·.1)).Pairwise (· < ·)
  | 0 => List.Pairwise.nil
  | n + 1 => by
    rw [rowE, List.map_append]
    refine List.pairwise_append.mpr ⟨rowE_sorted text parts t n, ?_, fun a ha b hb => ?_⟩
    · cases tsum text parts n <;> simp
    · obtain ⟨⟨a, w⟩, ha', rfl⟩ := List.mem_map.mp ha
      obtain ⟨p, h1, rfl, _⟩ := rowE_mem.mp ha'
      rcases q : tsum text parts n with _ | v
      · rw [q] at hb; cases hb
      · rw [q] at hb
        rcases List.mem_singleton.mp hb with rfl
        show 20 + 10 * (t : Int) + p < 20 + 10 * (t : Int) + n
        omega
theorem entriesTo_mem {texts : List (List Int)} {parts : List Part} {k w : Int} : ∀ {n : Nat}, (k, w) ∈ entriesTo texts parts n ↔ ∃ t p : Nat, t < n ∧ p < (texts.getD t []).length ∧ k = 20 + 10 * (t : Int) + p ∧ tsum (texts.getD t []) parts p = some w
  | 0 => ⟨(fun h => by cases h), fun ⟨t, p, h, _⟩ => by omega⟩
  | n + 1 => by
    rw [entriesTo, List.mem_append, entriesTo_mem, rowE_mem]
    constructor
    · rintro (⟨t, p, h1, h2⟩ | ⟨p, h⟩)
      · exact ⟨t, p, by omega, h2⟩
      · exact ⟨n, p, by omega, h⟩
    · rintro ⟨t, p, h1, h2⟩
      by_cases q : t < n
      · exact .inl ⟨t, p, q, h2⟩
      · obtain rfl : t = n := by omega
        exact .inr ⟨p, h2⟩
theorem getD_short {texts : List (List Int)} (hT : TextsOk texts) (t : Nat) : (texts.getD t []).length ≤ 5 := by
  by_cases q : t < texts.length
  · rw [List.getD_eq_getElem?_getD, List.getElem?_eq_getElem q]; exact hT.short _ (List.getElem_mem q)
  · rw [List.getD_eq_getElem?_getD, List.getElem?_eq_none (by omega)]; exact Nat.zero_le _
theorem entriesTo_sorted {texts : List (List Int)} (hT : TextsOk texts) (parts : List Part) : ∀ n : Nat, ((entriesTo texts parts n).map (·.1)).Pairwise (· < ·)
  | 0 => List.Pairwise.nil
  | n + 1 => by
    rw [entriesTo, List.map_append]
    refine List.pairwise_append.mpr ⟨entriesTo_sorted hT parts n, rowE_sorted _ _ _ _, fun a ha b hb => ?_⟩
    obtain ⟨⟨a, w⟩, ha', rfl⟩ := List.mem_map.mp ha
    obtain ⟨⟨b, v⟩, hb', rfl⟩ := List.mem_map.mp hb
    obtain ⟨t, p, h1, h2, rfl, _⟩ := entriesTo_mem.mp ha'
    obtain ⟨q, h3, rfl, _⟩ := rowE_mem.mp hb'
    have := getD_short hT t
    show 20 + 10 * (t : Int) + p < 20 + 10 * (n : Int) + q
    omega
theorem rowE_len (text : List Int) (parts : List Part) (t : Nat) : ∀ n : Nat, (rowE text parts t n).length ≤ n
  | 0 => Nat.le_refl _
  | n + 1 => by
    rw [rowE, List.length_append]
    have := rowE_len text parts t n
    have h2 : (match tsum text parts n with | some w => [(20 + 10 * (t : Int) + n, w)] | none => []).length ≤ 1 := by cases tsum text parts n <;> simp
    omega
theorem entriesTo_len {texts : List (List Int)} (hT : TextsOk texts) (parts : List Part) : ∀ n : Nat, (entriesTo texts parts n).length ≤ 5 * n
  | 0 => Nat.le_refl _
  | n + 1 => by
    rw [entriesTo, List.length_append]
    have := entriesTo_len hT parts n
    have := rowE_len (texts.getD n []) parts n (texts.getD n []).length
    have := getD_short hT n
    omega
noncomputable def Kvs (kvs : List (Int × Value)) (es : List (Int × Int)) : Prop := kvs.map (·.1) = es.map (·.1) ∧ ∀ (j : Nat) k w, es[j]? = some (k, w) → ∃ u, kvs[j]? = some (k, .int w u)
theorem Kvs.len {kvs : List (Int × Value)} {es : List (Int × Int)} (h : Kvs kvs es) : kvs.length = es.length := by
  have := congrArg List.length h.1
  simpa using this
theorem Kvs.snoc {kvs : List (Int × Value)} {es : List (Int × Int)} (h : Kvs kvs es) {k w : Int} {u : Tok} (hk : ∀ x ∈ es, x.1 ≠ k) : Kvs (stored kvs k (.int w u)) (es ++ [(k, w)]) := by
  have e : stored kvs k (.int w u) = kvs ++ [(k, .int w u)] := by
    unfold stored
    rw [if_neg]
    intro q
    obtain ⟨x, hx, q⟩ := List.any_eq_true.mp q
    have hxk : x.1 = k := of_decide_eq_true q
    have hm : x.1 ∈ es.map (·.1) := h.1 ▸ List.mem_map_of_mem hx
    obtain ⟨y, hy, hyx⟩ := List.mem_map.mp hm
    exact hk y hy (hyx.trans hxk)
  rw [e]
  refine ⟨by rw [List.map_append, List.map_append, h.1]; rfl, fun j k' w' hj => ?_⟩
  by_cases q : j < es.length
  · rw [List.getElem?_append_left q] at hj
    obtain ⟨u', h'⟩ := h.2 j k' w' hj
    exact ⟨u', by rw [List.getElem?_append_left (by rw [h.len]; exact q)]; exact h'⟩
  · rw [List.getElem?_append_right (by omega)] at hj
    have hz : j - es.length = 0 := by
      have := (List.getElem?_eq_some_iff.mp hj).1
      simp at this; omega
    rw [hz] at hj
    cases hj
    exact ⟨u, by rw [List.getElem?_append_right (by rw [h.len]; omega), h.len, hz]; rfl⟩
theorem waysP_lt (text : List Int) : ∀ (parts : List Part) (place : Nat) (row : List Nat), row ∈ waysP text parts place → ∀ i ∈ row, i < text.length
  | [], _, row, h, _, _ => by cases h
  | p :: [], place, row, h, i, hi => by
    unfold waysP at h
    split at h
    · rename_i q
      rcases List.mem_singleton.mp h with rfl
      rcases List.mem_singleton.mp hi with rfl
      exact q.1
    · cases h
  | p :: q :: rest, place, row, h, i, hi => by
    unfold waysP at h
    split at h
    · rename_i c
      obtain ⟨g, _, h⟩ := List.mem_flatMap.mp h
      obtain ⟨row', h', rfl⟩ := List.mem_map.mp h
      rcases List.mem_cons.mp hi with rfl | hi
      · exact c.1
      · exact waysP_lt text (q :: rest) _ row' h' i hi
    · cases h
structure O51 (c : Cx) (m : Lc) (σ : AH) (d : Addr) (es : List (Int × Int)) (it : Addr) (m' : Lc) (σ' : AH) : Prop where
  E : Ext σ σ'
  h0 : σ it = none
  hdi : d ≠ it
  m1 : m' "texts" = m "texts"
  m2 : m' "parts" = m "parts"
  m3 : m' "deeds" = m "deeds"
  m4 : m' "plain" = some (.ref d)
  kv : ∃ kvs, DictN c σ' d kvs ∧ Kvs kvs es
structure N51 (c : Cx) (m : Lc) (σ : AH) (d ta it : Addr) (o : Obj) (k : Nat) (tk : Tok) (es : List (Int × Int)) (it2 : Addr) (m' : Lc) (σ' : AH) : Prop extends O51 c m σ d es it2 m' σ' where
  hii : it ≠ it2
  gi : σ' it = some (.obj o)
  n5 : m' "turn" = some (.int (0 + k) tk)
  n6 : m' "text" = some (.ref ta)
section
variable {c : Cx} {m : Lc} {σ : AH} {fa : Addr} {cd : Value} {texts : List (List Int)} {parts : List Part}
theorem w_plain (r : Room c.A 60) {ts ps : Addr} (mt : m "texts" = some (.ref ts)) (mp : m "parts" = some (.ref ps)) (hT : TextsAt σ ts texts) (hP : PartsAt σ ps parts) (oT : TextsOk texts) (oP : parts ≠ [] ∧ parts.length ≤ 3 ∧ ∀ p ∈ parts, PartOk p)
    {Q : Flow → Lc → AH → Prop} (h : ∀ m' d kvs σ', m' "texts" = m "texts" → m' "parts" = m "parts" → m' "deeds" = m "deeds" → m' "plain" = some (.ref d) → σ d = none → Ext σ σ' → DictN c σ' d kvs → Kvs kvs (entriesTo texts parts texts.length) →
      XV c m' σ' (execs ((Hd.fBody lawS).drop 7) (lawEnv c fa cd)) Q) :
    XV c m σ (execs ((Hd.fBody lawS).drop 5) (lawEnv c fa cd)) Q := by
  obtain ⟨tv, ets, ltv, htv⟩ := id hT
  have hlen := oT.len
  refine x_execs (by with_unfolding_all rfl) ?_
  repeat walk_at "g"
  refine x_dict_empty fun d od hd hDN => ?_
  repeat walk_at "g"
  refine x_for ?_
  repeat walk_at "g"
  refine x_builtin b_range.1 b_range.2 (by decide) ?_
  refine x_cwt ?_
  repeat walk_at "g"
  refine x_builtin b_len.1 b_len.2 (by decide) ?_
  refine x_cwb ?_
  repeat walk_at "g"
  have E1 : Ext σ (Mine.put σ d (.obj od)) := (Ext.refl σ).put hd
  refine x_len_list (E1.some ets) (by omega) fun t1 => ?_
  repeat walk_at "g"
  refine x_range1 fun ra t2 t3 t4 hra => ?_
  have E2 := E1.put (n := .obj { cls := .type "range", dict := none, data := .fields #[.int 0 t2, .int tv.length t3, .int 1 t4], slots := #[] }) (E1.none hra)
  have hdra : d ≠ ra := fun z => by rw [← z, put_self] at hra; cases hra
  have hD0 : DictN c (Mine.put (Mine.put σ d (.obj od)) ra (.obj { cls := .type "range", dict := none, data := .fields #[.int 0 t2, .int tv.length t3, .int 1 t4], slots := #[] })) d [] := hDN.off fun o q => (put_ne hdra).trans q
  refine xf_loop2 (S := .range 0 texts.length) (fun it k => O51 c m σ d (entriesTo texts parts k) it)
    ⟨ra, _, t2, t3, t4, rfl, by omega, put_self _ _ _, by decide, by omega⟩ r.2.2 (fun it hit => ⟨E2, E2.none hit, fun z => ?_, rfl, rfl, rfl, rfl, [], hD0, rfl, fun j k w hj => by simp [entriesTo] at hj⟩) ?_ ?_ ?_
  · obtain ⟨o, q1, _⟩ := hD0; rw [← z] at hit; rw [hit] at q1; cases q1
  · rintro it k m' σ' σ'' h1 i0 h2 h3
    obtain ⟨kvs, q1, q3⟩ := i0.kv
    exact ⟨i0.E.ins i0.h0 h3, i0.h0, i0.hdi, i0.m1, i0.m2, i0.m3, i0.m4, kvs, q1.off fun o q => (h3 d i0.hdi).trans q, q3⟩
  · rintro it k m' σ' v o h1 i0 h2 _ hk ⟨tk, rfl⟩ Q0 hN _
    have E := i0.E
    have m1 := i0.m1
    have m2 := i0.m2
    have m3 := i0.m3
    have m4 := i0.m4
    obtain ⟨kvs, hDk, hK⟩ := i0.kv
    have hk : k < texts.length := hk
    rw [mt] at m1
    rw [mp] at m2
    obtain ⟨ta, ha, xv, ex, ix⟩ := htv k _ (List.getElem?_eq_getElem hk)
    have hshort := oT.short _ (List.getElem_mem hk)
    have hgd : texts.getD k [] = texts[k] := by rw [List.getD_eq_getElem?_getD, List.getElem?_eq_getElem hk]; rfl
    generalize texts[k] = text at ix hshort hgd
    refine x_assign_name ?_
    repeat walk_at "g"
    refine x_list_item (E.some ets) (by omega) (by omega) (by rw [show ((0 : Int) + k).toNat = k by omega]; exact ha) ?_
    repeat walk_at "g"
    refine x_for ?_
    repeat walk_at "g"
    refine x_builtin b_range.1 b_range.2 (by decide) ?_
    refine x_cwt ?_
    repeat walk_at "g"
    refine x_builtin b_len.1 b_len.2 (by decide) ?_
    refine x_cwb ?_
    repeat walk_at "g"
    refine x_len_list (E.some ex) (by rw [ix.1]; omega) fun t5 => ?_
    repeat walk_at "g"
    rw [ix.1]
    refine x_range1 fun rb t6 t7 t8 hrb => ?_
    have E3 : Ext σ' (Mine.put σ' rb (.obj { cls := .type "range", dict := none, data := .fields #[.int 0 t6, .int text.length t7, .int 1 t8], slots := #[] })) := (Ext.refl σ').put hrb
    have hD3 : DictN c (Mine.put σ' rb (.obj { cls := .type "range", dict := none, data := .fields #[.int 0 t6, .int text.length t7, .int 1 t8], slots := #[] })) d kvs := hDk.off fun o q => E3.some q
    refine xf_loop2 (S := .range 0 text.length) (fun it2 j => N51 c m σ d ta it o k tk (entriesTo texts parts k ++ rowE text parts k j) it2)
      ⟨rb, _, t6, t7, t8, rfl, by omega, put_self _ _ _, by decide, by omega⟩ r.2.2 (fun it2 hit => ⟨⟨E.trans E3, (E.trans E3).none hit, fun z => ?_, i0.m1, i0.m2, m3, m4, kvs, hD3, by rw [rowE, List.append_nil]; exact hK⟩, fun z => ?_, E3.some h2, rfl, rfl⟩) ?_ ?_ ?_
    · obtain ⟨o, q1, _⟩ := hD3; rw [← z] at hit; rw [hit] at q1; cases q1
    · rw [← z, E3.some h2] at hit; cases hit
    · rintro it2 j m'' σ'' σ3 g1 i2 g2 g3
      obtain ⟨kvs, q1, q3⟩ := i2.kv
      exact ⟨⟨i2.E.ins i2.h0 g3, i2.h0, i2.hdi, i2.m1, i2.m2, i2.m3, i2.m4, kvs, q1.off fun o q => (g3 d i2.hdi).trans q, q3⟩, i2.hii, (g3 it i2.hii).trans i2.gi, i2.n5, i2.n6⟩
    · rintro it2 j m'' σ'' v o2 g1 i2 g2 _ hj ⟨tj, rfl⟩ Q1 hN1 _
      have E' := i2.E
      have n1 := i2.m1.trans mt
      have n2 := i2.m2.trans mp
      have n4 := i2.m4
      have n5 := i2.n5
      have n6 := i2.n6
      obtain ⟨kvs, hDj, hKj⟩ := i2.kv
      have hj : j < text.length := hj
      obtain ⟨oP1, oP2, oP3⟩ := oP
      refine x_assign_name ?_
      repeat walk_at "g"
      refine x_global g_law_ways.1 ?_
      refine x_cw g_law_ways.2 ?_
      repeat walk_at "g"
      intro t9
      repeat walk_at "g"
      rw [show (0 : Int) + j = j by omega]
      have hpl : 0 < parts.length := List.length_pos_iff.mpr oP1
      refine x_runs (r1207 (by omega) oP2 (fun p hp => (oP3 p hp).gap) (parts.length - 1) 0 (by omega) σ'' j t9 tj ⟨xv, E'.some ex, ix⟩ (hP.ext E')) (r.mono (by omega)) fun v σ4 q => ?_
      rw [List.drop_zero] at q
      obtain ⟨l, rfl, hl, hR, E4⟩ := q
      obtain ⟨lv, el, ll, _⟩ := id hR
      have hrowlen := waysP_row text parts j
      have hDj4 : DictN c σ4 d kvs := hDj.off fun o q => E4.some q
      have hlw : lv.length ≤ 27 := by
        rw [ll]
        exact Nat.le_trans (waysP_len text parts j fun p hp => (oP3 p hp).gap.2) (Nat.le_trans (Nat.pow_le_pow_right (by decide) oP2) (by decide))
      repeat walk_at "g"
      refine x_builtin b_len.1 b_len.2 (by decide) ?_
      refine x_cwb ?_
      repeat walk_at "g"
      refine x_len_list el (by omega) fun t10 => ?_
      repeat walk_at "g"
      intro t11
      repeat walk_at "g"
      by_cases hw : waysP text parts j = []
      · refine ite_no (by rw [ll, hw]; decide) ?_
        repeat walk_at "g"
        refine hN1 _ _ ⟨⟨E'.trans E4, i2.h0, i2.hdi, i2.m1, i2.m2, i2.m3, n4, kvs, hDj4, ?_⟩, i2.hii, E4.some i2.gi, n5, n6⟩ (E4.some g2) trivial
        rw [rowE, show tsum text parts j = none by unfold tsum; rw [if_pos hw], List.append_nil]
        exact hKj
      · have hpos : 0 < (waysP text parts j).length := List.length_pos_iff.mpr hw
        refine ite_yes (decide_eq_true (by rw [ll]; omega)) ?_
        repeat walk_at "g"
        refine x_set_item ?_ (by with_unfolding_all rfl)
        repeat walk_at "g"
        refine x_global g_law_sum.1 ?_
        refine x_cw g_law_sum.2 ?_
        repeat walk_at "g"
        refine x_runs (r1214 (by omega) ⟨xv, E4.some (E'.some ex), ix⟩ hR fun row hrow => ⟨by rw [waysP_row text parts j row hrow]; exact oP2, waysP_lt text parts j row hrow⟩) (r.mono (by omega)) fun v σ5 q => ?_
        obtain ⟨⟨us, rfl⟩, E5⟩ := q
        repeat walk_at "g"
        intro t12
        repeat walk_at "g"
        intro t13
        repeat walk_at "g"
        refine x_mul_int (fun t14 => ?_) (IntMulOk.of_left (by decide +kernel))
        repeat walk_at "g"
        intro t15
        repeat walk_at "g"
        intro t16
        have E45 := E4.trans E5
        have hDj5 : DictN c σ5 d kvs := hDj.off fun o q => E45.some q
        have hke : 20 + 10 * ((0 : Int) + k) + (j : Int) = 20 + 10 * (k : Int) + j := by omega
        have hklen : kvs.length ≤ 64 := by
          rw [hKj.len, List.length_append]
          have := entriesTo_len oT parts k
          have := rowE_len text parts k j
          omega
        refine x_dict_set hDj5 (Nat.le_trans hklen (by decide)) fun o5 hD6 => ?_
        repeat walk_at "g"
        refine hN1 _ _ ⟨⟨((E'.trans E45).put hd), i2.h0, i2.hdi, i2.m1, i2.m2, i2.m3, n4, _, hD6, ?_⟩, i2.hii, (put_ne (Ne.symm i0.hdi)).trans (E45.some i2.gi), n5, n6⟩ ((put_ne (Ne.symm i2.hdi)).trans (E45.some g2)) trivial
        rw [rowE, show tsum text parts j = some (sumGo text [] (waysP text parts j)) by unfold tsum; rw [if_neg hw], ← List.append_assoc]
        rw [hke]
        refine hKj.snoc ?_
        rintro ⟨k', w'⟩ hx rfl
        rcases List.mem_append.mp hx with hx | hx
        · obtain ⟨t, p, z1, z2, z3, _⟩ := entriesTo_mem.mp hx
          have := getD_short oT t
          have z3 : 20 + 10 * (k : Int) + j = 20 + 10 * (t : Int) + p := z3
          omega
        · obtain ⟨p, z1, z3, _⟩ := rowE_mem.mp hx
          have z3 : 20 + 10 * (k : Int) + j = 20 + 10 * (k : Int) + p := z3
          omega
    · rintro it2 m'' σ'' i2
      repeat walk_at "g"
      obtain ⟨kvs, hDj, hKj⟩ := i2.kv
      refine hN _ _ ⟨i2.E, i0.h0, i0.hdi, i2.m1, i2.m2, i2.m3, i2.m4, kvs, hDj, ?_⟩ i2.gi trivial
      rw [entriesTo, hgd]
      exact hKj
  · rintro it m' σ' i0
    walk_at "g"
    obtain ⟨kvs, hDk, hK⟩ := i0.kv
    exact h m' d kvs σ' i0.m1 i0.m2 i0.m3 i0.m4 hd i0.E hDk hK
end
noncomputable def restE (es : List (Int × Int)) (low : Int) : List (Int × Int) := es.filter fun e => decide (low ≤ e.1)
theorem restE_mem {es : List (Int × Int)} {low i w : Int} : (i, w) ∈ restE es low ↔ low ≤ i ∧ (i, w) ∈ es := by
  unfold restE
  rw [List.mem_filter]
  exact ⟨fun h => ⟨of_decide_eq_true h.2, h.1⟩, fun h => ⟨h.2, decide_eq_true h.1⟩⟩
theorem restE_keys (es : List (Int × Int)) (low : Int) : (restE es low).map (·.1) = (es.map (·.1)).filter fun p => decide (low ≤ p) := by
  unfold restE
  rw [List.filter_map]; rfl
section
variable {es : List (Int × Int)} {T : Strm} {low : Int}
theorem rest_act (hT : ∀ i w, T i = some w ↔ (i, w) ∈ es) : Act (cut low T) ↔ restE es low ≠ [] := by
  constructor
  · rintro ⟨i, w, h⟩ q
    obtain ⟨h1, h2⟩ := cut_some.mp h
    have := restE_mem.mpr ⟨h1, (hT i w).mp h2⟩
    rw [q] at this; cases this
  · intro h
    match q : restE es low, h with
    | (i, w) :: tl, _ =>
      obtain ⟨h1, h2⟩ := restE_mem.mp (show (i, w) ∈ restE es low by rw [q]; exact List.mem_cons_self)
      exact ⟨i, w, cut_some.mpr ⟨h1, (hT i w).mpr h2⟩⟩
theorem rest_head (hT : ∀ i w, T i = some w ↔ (i, w) ∈ es) (hs : (es.map (·.1)).Pairwise (· < ·)) {i w : Int} {tl : List (Int × Int)} (q : restE es low = (i, w) :: tl) : Hdd (cut low T) i w ∧ restE es (i + 1) = tl ∧ low ≤ i ∧ (i, w) ∈ es := by
  obtain ⟨h1, h2⟩ := restE_mem.mp (show (i, w) ∈ restE es low by rw [q]; exact List.mem_cons_self)
  have hs' : ((restE es low).map (·.1)).Pairwise (· < ·) := by rw [restE_keys]; exact hs.filter _
  rw [q, List.map_cons, List.pairwise_cons] at hs'
  have hlt : ∀ x ∈ tl, i < x.1 := fun x hx => hs'.1 x.1 (List.mem_map_of_mem hx)
  refine ⟨⟨cut_some.mpr ⟨h1, (hT i w).mpr h2⟩, fun j hj => ?_⟩, ?_, h1, h2⟩
  · rcases z : cut low T j with _ | v
    · rfl
    · obtain ⟨h3, h4⟩ := cut_some.mp z
      have hm := restE_mem.mpr ⟨h3, (hT j v).mp h4⟩
      rw [q] at hm
      rcases List.mem_cons.mp hm with e | hm
      · cases e; omega
      · have := hlt _ hm
        have : i < j := this
        omega
  · have e : restE es (i + 1) = (restE es low).filter fun e => decide (i + 1 ≤ e.1) := by
      unfold restE
      rw [List.filter_filter]
      refine List.filter_congr fun x _ => ?_
      by_cases z : i + 1 ≤ x.1
      · rw [decide_eq_true z, decide_eq_true (show low ≤ x.1 by omega)]; rfl
      · rw [decide_eq_false z]; rfl
    rw [e, q, List.filter_cons, if_neg (by simp; omega)]
    exact List.filter_eq_self.mpr fun x hx => decide_eq_true (hlt x hx)
theorem restE_le (es : List (Int × Int)) {low low' : Int} (h : low ≤ low') : (restE es low').length ≤ (restE es low).length := by
  have e : restE es low' = (restE es low).filter fun e => decide (low' ≤ e.1) := by
    unfold restE
    rw [List.filter_filter]
    refine List.filter_congr fun x _ => ?_
    by_cases z : low' ≤ x.1
    · rw [decide_eq_true z, decide_eq_true (show low ≤ x.1 by omega)]; rfl
    · rw [decide_eq_false z]; rfl
  rw [e]; exact List.length_filter_le _ _
end
theorem find_nodup {kvs : List (Int × Value)} (hn : (kvs.map (·.1)).Nodup) {k : Int} {v : Value} (h : (k, v) ∈ kvs) : valueAt kvs k = some v := by
  unfold valueAt
  induction kvs with
  | nil => cases h
  | cons x kvs ih =>
    rw [List.map_cons, List.nodup_cons] at hn
    rcases List.mem_cons.mp h with rfl | h
    · simp
    · have hne : x.1 ≠ k := fun q => hn.1 (q ▸ List.mem_map_of_mem (f := fun z : Int × Value => z.1) h)
      rw [List.find?_cons_of_neg (by simpa using hne)]
      exact ih hn.2 h
theorem Kvs.value {kvs : List (Int × Value)} {es : List (Int × Int)} (h : Kvs kvs es) (hs : (es.map (·.1)).Pairwise (· < ·)) {i w : Int} (hm : (i, w) ∈ es) : ∃ u, valueAt kvs i = some (.int w u) := by
  obtain ⟨j, hj⟩ := List.mem_iff_getElem?.mp hm
  obtain ⟨u, hu⟩ := h.2 j i w hj
  refine ⟨u, find_nodup ?_ (List.mem_of_getElem? hu)⟩
  rw [h.1]
  exact hs.imp fun h => Int.ne_of_lt h
section
variable {c : Cx} {m : Lc} {σ : AH} {fa : Addr} {cd : Value} {es : List (Int × Int)} {T : Strm}
theorem x_val {t : Sem Value} {P : Value → Prop} {Q : Value → Lc → AH → Prop} (h : XV c m σ t fun v m' σ' => P v ∧ m' = m ∧ σ' = σ) (k : ∀ v, P v → Q v m σ) : XV c m σ t Q :=
  x_mono h fun v m' σ' ⟨h1, h2, h3⟩ => by subst h2 h3; exact k v h1
structure I53 (c : Cx) (ds d : Addr) (dv : List Value) (kvs : List (Int × Value)) (es : List (Int × Int)) (T : Strm) (nd : Nat) (it : Addr) (k : Nat) (m' : Lc) (σ' : AH) (tr : Addr) (fp : Addr → Prop) (low : Int) (tl : Tok) : Prop where
  hdi : d ≠ it
  m1 : m' "deeds" = some (.ref ds)
  m2 : m' "plain" = some (.ref d)
  e1 : σ' ds = some (.list dv)
  dn : DictN c σ' d kvs
  m3 : m' "tree" = some (.ref tr)
  e2 : σ' (c.L + 1 + 1) = some (.cell (some (.int low tl)))
  hR : Rep 9 σ' tr (cut low T) fp
  n1 : ¬ fp ds
  n2 : ¬ fp d
  n3 : ¬ fp (c.L + 1 + 1)
  n4 : ¬ fp it
  hm : (restE es low).length + (k - nd) ≤ 10
noncomputable def V53 (c : Cx) (ds d : Addr) (dv : List Value) (kvs : List (Int × Value)) (es : List (Int × Int)) (T : Strm) (nd : Nat) (it : Addr) (k : Nat) (m' : Lc) (σ' : AH) : Prop := ∃ tr fp low tl, I53 c ds d dv kvs es T nd it k m' σ' tr fp low tl
theorem w_loop (r : Room c.A 60) {ds d tr : Addr} {fp : Addr → Prop} {dv : List Value} {deeds : List Int} {kvs : List (Int × Value)}
    (md : m "deeds" = some (.ref ds)) (mp : m "plain" = some (.ref d)) (mtr : m "tree" = some (.ref tr)) (eD : σ ds = some (.list dv)) (iD : Ints dv deeds) (lD : deeds.length ≤ 4) (hD : DictN c σ d kvs) (hK : Kvs kvs es) (hes : (es.map (·.1)).Pairwise (· < ·)) (les : es.length ≤ 10)
    (eL : ∃ t, σ (c.L + 1 + 1) = some (.cell (some (.int 0 t)))) (hpos : ∀ x ∈ es, 0 ≤ x.1) (hT : ∀ i w, T i = some w ↔ (i, w) ∈ es) (hR : Rep 9 σ tr T fp) (nds : ¬ fp ds) (nd : ¬ fp d) (nl : ¬ fp (c.L + 1 + 1)) :
    XV c m σ (execs ((Hd.fBody lawS).drop 9) (lawEnv c fa cd)) fun fl _ _ => retv fl = .bool true := by
  have klen : kvs.length ≤ 10 := by rw [hK.len]; exact les
  refine x_execs (by with_unfolding_all rfl) ?_
  refine x_for ?_
  repeat walk_at "g"
  refine x_builtin b_range.1 b_range.2 (by decide) ?_
  refine x_cwt ?_
  repeat walk_at "g"
  refine x_builtin b_len.1 b_len.2 (by decide) ?_
  refine x_cwb ?_
  repeat walk_at "g"
  have lD' := iD.1
  refine x_len_list eD (by omega) fun t1 => ?_
  repeat walk_at "g"
  intro t2
  repeat walk_at "g"
  intro t3
  repeat walk_at "g"
  rw [lD']
  refine x_range1 fun ra t4 t5 t6 hra => ?_
  have domR : ∀ y, fp y → σ y ≠ none := fun y hy => (kidR 9).dom hR hy
  have E1 : Ext σ (Mine.put σ ra (.obj { cls := .type "range", dict := none, data := .fields #[.int 0 t4, .int ((deeds.length : Int) + 11) t5, .int 1 t6], slots := #[] })) := (Ext.refl σ).put hra
  have era := put_self σ ra (.obj { cls := .type "range", dict := none, data := .fields #[.int 0 t4, .int ((deeds.length : Int) + 11) t5, .int 1 t6], slots := #[] })
  generalize Mine.put σ ra (.obj { cls := .type "range", dict := none, data := .fields #[.int 0 t4, .int ((deeds.length : Int) + 11) t5, .int 1 t6], slots := #[] }) = σr at E1 era
  have hD1 : DictN c σr d kvs := hD.off fun o q => E1.some q
  have cut0 : cut 0 T = T := Strm.ext fun i w => cut_some.trans ⟨fun h => h.2, fun h => ⟨hpos (i, w) ((hT i w).mp h), h⟩⟩
  refine xf_loop2 (S := .range 0 (deeds.length + 11)) (V53 c ds d dv kvs es T deeds.length)
    ⟨ra, _, t4, t5, t6, rfl, by omega, era, by decide, by omega⟩ r.2.2 (fun it hit => ⟨tr, fp, 0, eL.choose, fun z => ?_, md, mp, E1.some eD, hD1, mtr, E1.some eL.choose_spec, by rw [cut0]; exact (kidR 9).loc hR fun y hy => E1 y (domR y hy), nds, nd, nl, fun hy => domR it hy (E1.none hit), ?_⟩) ?_ ?_ ?_
  · obtain ⟨o, q1, _⟩ := hD1; rw [← z] at hit; rw [hit] at q1; cases q1
  · have : (restE es 0).length ≤ es.length := List.length_filter_le _ _
    omega
  · rintro it k m' σ' σ'' h1 ⟨tr, fp, low, tl, iv⟩ h2 h3
    refine ⟨tr, fp, low, tl, iv.hdi, iv.m1, iv.m2, ins_list iv.e1 h2 h3, iv.dn.off fun o q => (h3 d iv.hdi).trans q, iv.m3, (h3 _ fun z => ?_).trans iv.e2, (kidR 9).loc iv.hR fun y hy => h3 y fun z => iv.n4 (z ▸ hy), iv.n1, iv.n2, iv.n3, iv.n4, iv.hm⟩
    rw [← z, iv.e2] at h2
    rcases h2 with h2 | ⟨o, h2⟩ <;> cases h2
  · rintro it k m' σ' v o h1 ⟨tr, fp, low, tl, iv⟩ h2 _ hk ⟨tk, rfl⟩ Q0 hN hRt
    have m1 := iv.m1
    have m2 := iv.m2
    have m3 := iv.m3
    have e1 := iv.e1
    have e2 := iv.e2
    have hDN := iv.dn
    have hR := iv.hR
    have hm := iv.hm
    have hk : k < deeds.length + 11 := hk
    refine x_assign_name ?_
    walk_at "g"
    refine x_execs (by with_unfolding_all rfl) ?_
    refine x_comp_assign (cl := [(S "low", c.L + 1 + 1)]) (by with_unfolding_all rfl) ?_ (by with_unfolding_all rfl) (by rfl) (by decide) rfl (by rfl) (by rfl)
    repeat walk_at "g"
    refine x_builtin b_sorted.1 b_sorted.2 (by decide) ?_
    refine x_cwb ?_
    repeat walk_at "g"
    refine x_sorted_dict hDN (by omega) r.2.2 fun sl svs ns hsl his hpm hsrt => ?_
    have hns : ns = es.map (·.1) := ksm_same (by rw [← hK.1]; exact hpm) hsrt (hes.imp fun h => Int.le_of_lt h)
    subst hns
    have Es : Ext σ' (Mine.put σ' sl (.list svs)) := (Ext.refl σ').put hsl
    have lsv : svs.length ≤ 10 := by rw [his.1, List.length_map]; exact les
    refine xcomp_loop (S := .list sl svs) (fun acc j ys σ2 => Ext σ' σ2 ∧ Ints ys (((es.map (·.1)).take j).filter fun p => decide (low ≤ p)))
      ⟨rfl, put_self _ _ _⟩ r.2.2 (Nat.le_trans lsv (by decide)) (fun acc σ2 _ h => ⟨Es.trans h, Ints.nil⟩) ?_ ?_ ?_ (by decide) (by rfl) (by rfl)
    · rintro acc j ys σ2 σ3 y0 ⟨q1, q2⟩ _ q4 _ q6
      exact ⟨q1.ins (Es.none q4) q6, q2⟩
    · rintro c' it' acc j ys m4 σ2 v o' hcA g1 g2 ⟨q1, q2⟩ g3 g4 gb hj hv Q1 Q2 hy hx
      have hj : j < svs.length := hj
      have hv : svs[j]? = some v := hv
      have hjn : j < (es.map (·.1)).length := by rw [← his.1]; exact hj
      obtain ⟨tp, hp⟩ := his.2 j _ (List.getElem?_eq_getElem hjn)
      obtain rfl : v = .int (es.map (·.1))[j] tp := by rw [hp] at hv; cases hv; rfl
      have htk := List.take_append_getElem hjn
      refine x_tests_one ?_
      repeat walk_at "g"
      refine x_nameE (by rfl) ?_
      repeat walk_at "g"
      refine x_cellE (by rfl) (q1.some e2) ?_
      repeat walk_at "g"
      by_cases hlow : low ≤ (es.map (·.1))[j]
      · refine ite_yes (decide_eq_true hlow) ?_
        refine x_nameE (by rfl) ?_
        refine hy _ _ _ g3 g4 gb ⟨q1, ?_⟩
        rw [← htk, List.filter_append, List.filter_cons, if_pos (decide_eq_true hlow)]
        exact q2.snoc _ tp
      · refine ite_no (by rw [decide_eq_false (show ¬ (es.map (·.1))[j] ≥ low from hlow)]; decide) ?_
        refine hx _ _ g3 g4 gb ⟨q1, ?_⟩
        rw [← htk, List.filter_append, List.filter_cons, if_neg (by simpa using hlow), List.filter_nil, List.append_nil]
        exact q2
    rintro rl rv σ2 hrl ⟨Ex2, irv⟩ erl
    have hrl : σ' rl = none := Es.none hrl
    have irv : Ints rv ((restE es low).map (·.1)) := by
      rw [restE_keys]
      rwa [show Src.n (.list sl svs) = (es.map (·.1)).length from his.1, List.take_length] at irv
    have domT : ∀ y, fp y → σ' y ≠ none := fun y hy => (kidR 9).dom hR hy
    have hR2 := (kidR 9).loc hR fun y hy => Ex2 y (domT y hy)
    have hDN2 := hDN.off fun o q => Ex2.some q
    have lrv : rv.length = (restE es low).length := by rw [irv.1, List.length_map]
    have lrest : (restE es low).length ≤ es.length := List.length_filter_le _ _
    have nrl : ¬ fp rl := fun hy => domT rl hy hrl
    have e1 := Ex2.some e1
    have e2 := Ex2.some e2
    have h2 := Ex2.some h2
    clear Ex2 Es hsl hrl hR hDN domT
    obtain ⟨f, hf, hr⟩ := (kidR 9).act hR2
    repeat walk_at "g"
    refine x_do0 hf hr r fun v σ3 q => ?_
    obtain ⟨⟨ta, rfl, hta⟩, rfl⟩ := q
    have hact := hta.trans (rest_act hT)
    repeat walk_at "g"
    refine x_builtin b_len.1 b_len.2 (by decide) ?_
    refine x_cwb ?_
    repeat walk_at "g"
    refine x_len_list erl (by omega) fun t7 => ?_
    repeat walk_at "g"
    intro t8
    repeat walk_at "g"
    refine x_ne_bool ?_
    rw [lrv]
    have hsame : ta = decide ((0 : Int) < ((restE es low).length : Nat)) := by
      cases q : restE es low with
      | nil =>
        cases ta with
        | false => rfl
        | true => exact absurd q (hact.mp rfl)
      | cons x l =>
        cases ta with
        | true => exact (decide_eq_true (by simp only [List.length_cons]; omega)).symm
        | false => exact absurd (hact.mpr (by rw [q]; exact List.cons_ne_nil _ _)) (by decide)
    rw [← hsame, bne_self_eq_false]
    repeat walk_at "g"
    refine ite_no (by decide) ?_
    repeat walk_at "g"
    refine x_builtin b_len.1 b_len.2 (by decide) ?_
    refine x_cwb ?_
    repeat walk_at "g"
    refine x_len_list erl (by omega) fun t9 => ?_
    repeat walk_at "g"
    intro t10
    repeat walk_at "g"
    rw [lrv]
    cases hrest : restE es low with
    | nil =>
      refine ite_yes rfl ?_
      repeat walk_at "g"
      exact hRt _ _ _ rfl
    | cons x tlE =>
    obtain ⟨i0, w0⟩ := x
    refine ite_no (by rw [beq_eq_false_iff_ne.mpr (by simp only [List.length_cons]; omega)]; decide) ?_
    obtain ⟨hH, htail, hlow, hin⟩ := rest_head hT hes hrest
    obtain ⟨uv, hval⟩ := hK.value hes hin
    obtain ⟨u0, hr0⟩ := irv.2 0 i0 (by rw [hrest]; rfl)
    obtain ⟨f, hf, hr⟩ := (kidR 9).id hR2 hH
    repeat walk_at "g"
    refine x_do0 hf hr r fun v σ3 q => ?_
    obtain ⟨⟨t11, rfl⟩, hR3, O3⟩ := q
    have erl3 := (O3 rl nrl).trans erl
    repeat walk_at "g"
    intro t12
    refine x_list_item erl3 (by decide) (by decide) hr0 ?_
    repeat walk_at "g"
    refine ite_no (by simp) ?_
    obtain ⟨f, hf, hr⟩ := (scoR 9).score hR3 hH
    repeat walk_at "g"
    refine x_do0 hf hr r fun v σ4 q => ?_
    obtain ⟨⟨t13, rfl⟩, hR4, O4⟩ := q
    have O24 := O3.trans O4
    have hDN4 := hDN2.off fun o q => (O24 d iv.n2).trans q
    have erl4 := (O24 rl nrl).trans erl
    repeat walk_at "g"
    intro t14
    refine x_list_item erl4 (by decide) (by decide) hr0 ?_
    refine x_dict_get hDN4 hval ?_
    repeat walk_at "g"
    refine ite_no (by simp) ?_
    obtain ⟨f, hf, hr⟩ := (kidR 9).weight hR4 hH
    repeat walk_at "g"
    refine x_do0 hf hr r fun v σ5 q => ?_
    obtain ⟨⟨t15, rfl⟩, hR5, O5⟩ := q
    have O25 := O24.trans O5
    have hDN5 := hDN2.off fun o q => (O25 d iv.n2).trans q
    have erl5 := (O25 rl nrl).trans erl
    repeat walk_at "g"
    intro t16
    refine x_list_item erl5 (by decide) (by decide) hr0 ?_
    refine x_dict_get hDN5 hval ?_
    repeat walk_at "g"
    refine ite_no (by simp) ?_
    repeat walk_at "g"
    refine ite_no (by decide) ?_
    repeat walk_at "g"
    have e1 := (O25 ds iv.n1).trans e1
    have e2 := (O25 _ iv.n3).trans e2
    have h2 := (O25 it iv.n4).trans h2
    refine x_val (P := fun v => ∃ n t, v = .int n t ∧ (deeds.length ≤ k → n = 0)) ?_ fun v hv => ?_
    · refine x_ifexp ?_
      repeat walk_at "g"
      refine x_builtin b_len.1 b_len.2 (by decide) ?_
      refine x_cwb ?_
      repeat walk_at "g"
      refine x_len_list e1 (by omega) fun t17 => ?_
      repeat walk_at "g"
      rw [lD']
      by_cases hkd : k < deeds.length
      · obtain ⟨tw, hw⟩ := iD.2 k _ (List.getElem?_eq_getElem hkd)
        refine ite_yes (decide_eq_true (by omega)) ?_
        repeat walk_at "g"
        refine x_list_item e1 (by omega) (by omega) (by rw [show ((0 : Int) + k).toNat = k by omega]; exact hw) ?_
        exact ⟨⟨_, _, rfl, fun h => by omega⟩, rfl, rfl⟩
      · refine ite_no (by rw [decide_eq_false (by omega)]; decide) ?_
        repeat walk_at "g"
        intro t18
        exact ⟨⟨_, _, rfl, fun _ => rfl⟩, rfl, rfl⟩
    obtain ⟨n, tn, rfl, hn⟩ := hv
    have hm1 : (restE es low).length = tlE.length + 1 := by rw [hrest]; rfl
    repeat walk_at "g"
    intro t19
    refine x_mod (by decide) fun t20 => ?_
    repeat walk_at "g"
    intro t21
    repeat walk_at "g"
    by_cases c1 : n.fmod 3 = 1
    · have hkd : k < deeds.length := by
        by_cases q : k < deeds.length
        · exact q
        · rw [hn (by omega)] at c1; exact absurd c1 (by decide)
      refine ite_yes (beq_iff_eq.mpr c1) ?_
      repeat walk_at "g"
      intro t22
      repeat walk_at "g"
      intro t23
      refine x_floordiv (by decide) (by decide) fun t24 => ?_
      repeat walk_at "g"
      intro t25
      refine x_mod (by decide) fun t26 => ?_
      repeat walk_at "g"
      intro t27
      repeat walk_at "g"
      obtain ⟨f, hf, hr⟩ := (kidR 9).skip hR5 hH.act
      refine x_do1 hf ?_ (by with_unfolding_all rfl)
      repeat walk_at "g"
      refine x_runs (hr _ _) r fun v σ6 q => ?_
      obtain ⟨hv, hR6, O6⟩ := q
      refine ⟨hv.ne, ?_⟩
      have e2 := (O6 _ iv.n3).trans e2
      repeat walk_at "g"
      refine x_builtin b_max.1 b_max.2 (by decide) ?_
      refine x_cwb ?_
      repeat walk_at "g"
      refine x_cellE (by rfl) e2 ?_
      repeat walk_at "g"
      refine x_max r.2.2 fun t28 => ?_
      refine x_storeC (by rfl) e2 ?_
      repeat walk_at "g"
      have e16 := (O6 ds iv.n1).trans e1
      have h26 := (O6 it iv.n4).trans h2
      have hDN6 := hDN5.off fun o q => (O6 d iv.n2).trans q
      have dsne : ds ≠ c.L + 1 + 1 := fun z => by rw [z, e2] at e16; cases e16
      have dne := hDN6.ne e2
      have itne : it ≠ c.L + 1 + 1 := fun z => by rw [z, e2] at h26; cases h26
      rw [cut_cut] at hR6
      have hle := restE_le es (Int.le_max_left low (19 + (n.fdiv 3).fmod 18))
      refine hN _ _ ⟨tr, fp, _, _, iv.hdi, m1, m2, (put_ne dsne).trans e16, hDN6.off fun o q => (put_ne dne).trans q, m3, put_self _ _ _, (kidR 9).loc (by rw [Int.max_comm]; exact hR6) (fun y hy => put_ne fun z => iv.n3 (z ▸ hy)), iv.n1, iv.n2, iv.n3, iv.n4, by omega⟩ ((put_ne itne).trans h26) trivial
    · refine ite_no (by rw [beq_eq_false_iff_ne.mpr c1]; decide) ?_
      repeat walk_at "g"
      intro t22
      refine x_mod (by decide) fun t23 => ?_
      repeat walk_at "g"
      intro t24
      repeat walk_at "g"
      by_cases c2 : n.fmod 3 = 2
      · have hkd : k < deeds.length := by
          by_cases q : k < deeds.length
          · exact q
          · rw [hn (by omega)] at c2; exact absurd c2 (by decide)
        refine ite_yes (beq_iff_eq.mpr c2) ?_
        obtain ⟨f, hf, hr, _⟩ := (rp2R 9).rpl hR5 hH.act
        repeat walk_at "g"
        refine x_do0 hf hr r fun v σ6 q => ?_
        obtain ⟨⟨tr', fp', rfl, hR6, k6, o6⟩, _⟩ := q
        repeat walk_at "g"
        have ne : ∀ {y n}, σ5 y = some n → σ5 y ≠ none := fun h z => by rw [z] at h; cases h
        have nf : ∀ {y}, σ5 y ≠ none → ¬ fp y → ¬ fp' y := fun h h' z => (k6 _ z).elim h' h
        refine hN _ _ ⟨tr', fp', low, _, iv.hdi, m1, m2, (o6 ds iv.n1 (ne e1)).trans e1, hDN5.off fun o q => (o6 d iv.n2 (ne q)).trans q, rfl, (o6 _ iv.n3 (ne e2)).trans e2, hR6, nf (ne e1) iv.n1, nf hDN5.some iv.n2, nf (ne e2) iv.n3, nf (ne h2) iv.n4, by omega⟩ ((o6 it iv.n4 (ne h2)).trans h2) trivial
      · refine ite_no (by rw [beq_eq_false_iff_ne.mpr c2]; decide) ?_
        obtain ⟨f, hf, hr⟩ := (kidR 9).next hR5 hH
        repeat walk_at "g"
        refine x_do0 hf hr r fun v σ6 q => ?_
        obtain ⟨hv, hR6, O6⟩ := q
        refine ⟨hv.ne, ?_⟩
        have erl6 := (O6 rl nrl).trans erl5
        repeat walk_at "g"
        intro t25
        refine x_list_item erl6 (by decide) (by decide) hr0 ?_
        repeat walk_at "g"
        intro t26
        repeat walk_at "g"
        intro t27
        have e2 := (O6 _ iv.n3).trans e2
        refine x_storeC (by rfl) e2 ?_
        repeat walk_at "g"
        have e16 := (O6 ds iv.n1).trans e1
        have h26 := (O6 it iv.n4).trans h2
        have hDN6 := hDN5.off fun o q => (O6 d iv.n2).trans q
        have dsne : ds ≠ c.L + 1 + 1 := fun z => by rw [z, e2] at e16; cases e16
        have dne := hDN6.ne e2
        have itne : it ≠ c.L + 1 + 1 := fun z => by rw [z, e2] at h26; cases h26
        rw [cut_cut, show max (i0 + 1) low = i0 + 1 by omega] at hR6
        refine hN _ _ ⟨tr, fp, _, _, iv.hdi, m1, m2, (put_ne dsne).trans e16, hDN6.off fun o q => (put_ne dne).trans q, m3, put_self _ _ _, (kidR 9).loc hR6 (fun y hy => put_ne fun z => iv.n3 (z ▸ hy)), iv.n1, iv.n2, iv.n3, iv.n4, by rw [htail]; omega⟩ ((put_ne itne).trans h26) trivial
  · rintro it m' σ' ⟨tr, fp, low, tl, iv⟩
    have hm := iv.hm
    have hm : (restE es low).length + (deeds.length + 11 - deeds.length) ≤ 10 := iv.hm
    omega
end
theorem tree_spec {texts : List (List Int)} {parts : List Part} (oT : TextsOk texts) (oP : parts ≠ [] ∧ parts.length ≤ 3 ∧ ∀ p ∈ parts, PartOk p) (i w : Int) : treeR texts parts i = some w ↔ (i, w) ∈ entriesTo texts parts texts.length := by
  obtain ⟨h1, h2⟩ := treeR_at oT parts oP.1 oP.2.2
  rw [entriesTo_mem]
  have hg : ∀ t (ht : t < texts.length), texts.getD t [] = texts[t] := fun t ht => by rw [List.getD_eq_getElem?_getD, List.getElem?_eq_getElem ht]; rfl
  constructor
  · intro h
    obtain ⟨t, p, ht, hp, rfl⟩ := h2 i w h
    rw [h1 t p ht (by omega)] at h
    refine ⟨t, p, ht, ?_, rfl, by rw [hg t ht]; exact h⟩
    rw [hg t ht]
    by_cases q : p < texts[t].length
    · exact q
    · unfold tsum at h
      rw [waysP_out texts[t] parts (by omega), if_pos rfl] at h; cases h
  · rintro ⟨t, p, ht, hp, rfl, h⟩
    have := getD_short oT t
    rw [hg t ht] at h hp
    rw [h1 t p ht (by have := oT.short _ (List.getElem_mem ht); omega)]
    exact h
section
variable {c : Cx} {m : Lc} {σ : AH} {fa : Addr} {cd : Value} {texts : List (List Int)} {parts : List Part}
theorem w_tail (r : Room c.A 61) {ts ps ds d : Addr} {dv : List Value} {deeds : List Int} {kvs : List (Int × Value)} {v0 : Option Value} (mt : m "texts" = some (.ref ts)) (mp : m "parts" = some (.ref ps)) (md : m "deeds" = some (.ref ds)) (mpl : m "plain" = some (.ref d))
    (hT : TextsAt σ ts texts) (hP : PartsAt σ ps parts) (oT : TextsOk texts) (oP : parts ≠ [] ∧ parts.length ≤ 3 ∧ ∀ p ∈ parts, PartOk p) (eD : σ ds = some (.list dv)) (iD : Ints dv deeds) (lD : deeds.length ≤ 4)
    (hD : DictN c σ d kvs) (hK : Kvs kvs (entriesTo texts parts texts.length)) (eL : σ (c.L + 1 + 1) = some (.cell v0)) : XV c m σ (execs ((Hd.fBody lawS).drop 7) (lawEnv c fa cd)) fun fl _ _ => retv fl = .bool true := by
  have hpl : 0 < parts.length := List.length_pos_iff.mpr oP.1
  refine x_execs (by with_unfolding_all rfl) ?_
  repeat walk_at "g"
  refine x_global g_law_tree.1 ?_
  refine x_cw g_law_tree.2 ?_
  repeat walk_at "g"
  intro t1
  repeat walk_at "g"
  refine x_runs (r1231 oT.len oT.short oP.2.1 (fun p hp => ⟨(oP.2.2 p hp).kind, (oP.2.2 p hp).gap⟩) (parts.length - 1) 0 (by omega) σ t1 hT hP) (r.mono (by have := oP.2.1; omega)) fun v σ1 q => ?_
  rw [List.drop_zero] at q
  obtain ⟨tr, fp, rfl, hR, hn, E1⟩ := q
  have hR : Rep 9 σ1 tr (treeR texts parts) fp := Rep.le (by have := oP.2.1; omega) hR
  repeat walk_at "g"
  intro t2
  refine x_storeC (by rfl) (E1.some eL) ?_
  obtain ⟨od, qd1, qd2, qd3⟩ := hD
  have nn : ∀ {y n}, σ y = some n → ¬ fp y := fun h z => by rw [hn _ z] at h; cases h
  have dsne : ds ≠ c.L + 1 + 1 := fun z => by rw [z, eL] at eD; cases eD
  have dne : d ≠ c.L + 1 + 1 := fun z => by rw [z, eL] at qd1; cases qd1
  refine w_loop (m := upd m (S "tree") (.ref tr)) (es := entriesTo texts parts texts.length) (T := treeR texts parts) (tr := tr) (fp := fp) (r.mono (by omega)) md mpl rfl (by rw [put_ne dsne]; exact E1.some eD) iD lD ⟨od, by rw [put_ne dne]; exact E1.some qd1, qd2, qd3⟩ hK (entriesTo_sorted oT parts _) ?_ ⟨t2, put_self _ _ _⟩ (fun x hx => ?_) (tree_spec oT oP)
    ((kidR 9).loc hR fun y hy => put_ne fun z => nn eL (z ▸ hy)) (nn eD) (nn qd1) (nn eL)
  · have h1 := entriesTo_len oT parts texts.length
    have h2 := oT.len
    omega
  · obtain ⟨x, w⟩ := x
    obtain ⟨t, p, _, _, rfl, _⟩ := entriesTo_mem.mp hx
    show (0 : Int) ≤ 20 + 10 * (t : Int) + p
    omega
theorem law_body (r : Room c.A 61) {sa : Addr} {sv : List Value} {script : List Int} {v0 : Option Value} (eS : σ (c.L + 1) = some (.cell (some (.ref sa)))) (eL : σ (c.L + 1 + 1) = some (.cell v0)) (hS : ListAt0 c sa sv) (hi : Ints sv script) (hz : script.length ≤ 63) :
    XV c m σ (execs (Hd.fBody lawS) (lawEnv c fa cd)) fun fl _ _ => retv fl = .bool true := by
  have r0 : Room c.A 60 := r.mono (by omega)
  refine w_texts r0 eS hS hi hz fun ts tv σ1 _ E1 ets hts => ?_
  refine w_texts0 rfl ets hts fun m2 ts2 σ2 mt2 E2 hT => ?_
  have E12 := E1.trans E2
  refine w_parts r0 (E12.some eS) hS hi hz fun ps pv σ3 _ E3 eps hps => ?_
  refine w_parts0 rfl eps hps fun m4 ps4 σ4 mp4 mt4 E4 hP => ?_
  have E34 := E3.trans E4
  have E14 := E12.trans E34
  refine w_deeds r0 (E14.some eS) hS hi hz fun ds dv σ5 _ E5 eds hds => ?_
  have E15 := E14.trans E5
  have hT5 := (hT.ext E34).ext E5
  have hP5 := hP.ext E5
  have mt5 : (upd m4 "deeds" (.ref ds)) "texts" = some (.ref ts2) := by
    show m4 "texts" = _
    rw [mt4]; exact mt2
  refine w_plain r0 mt5 mp4 hT5 hP5 (textsOf_ok script) (partsOf_ok script) fun m6 d kvs σ6 n1 n2 n3 n4 _ E6 hD hK => ?_
  exact w_tail r (n1.trans mt5) (n2.trans mp4) (n3.trans rfl) n4 (hT5.ext E6) (hP5.ext E6) (textsOf_ok script) (partsOf_ok script) (E6.some eds) hds (picks_len script [2, 5, 6, 8]) hD hK ((E15.trans E6).some eL)
end
theorem ints_of_reads {R : WRecords} {cl : PySem.Str → Option Addr} {h : Heap} : ∀ {ns : List Int} {vs : List Value} {as : List Addr}, ReadsAllW R cl h vs (ns.map .int) as → Ints vs ns
  | [], vs, as, x => by
    cases x
    exact Ints.nil
  | n :: ns, vs, as, x => by
    rw [List.map_cons] at x
    cases x with
    | cons a b =>
      cases a with
      | int i t => exact (ints_of_reads b).cons n t
theorem pre_len {ns : List Int} (h : Hd.rr.toRowW.pre.holds Hd.rr.toRowW.records { args := [.list (ns.map .int)] } = true) : ns.length ≤ 63 := by
  have e : Hd.rr.toRowW.pre = .and (.not (.lt (.lit (.int 63)) (.len (.arg 0)))) (.lit (.bool true)) := by rfl
  rw [e] at h
  by_cases q : ns.length ≤ 63
  · exact q
  · exfalso
    simp [WTm.holds, WTm.value] at h
    rw [show less? (WData.int 63) (WData.int ns.length) = some (decide ((63 : Int) < ns.length)) by simp [less?, Num.less?], decide_eq_true (show (63 : Int) < ns.length by omega)] at h
    exact absurd h (by decide)
theorem post_ok (args ds : List WData) : Hd.rr.toRowW.claim.post args (.bool true) ds = true := by
  show (WShape.has Hd.rr.toRowW.records (.bool true) .bool && WTm.holds Hd.rr.toRowW.records (.eq .res (.lit (.bool true))) { args := args, res := some (.bool true), after := ds }) = true
  simp [WShape.has, WShape.arms, WTm.holds, WTm.value, same]
theorem walk0 : Hd.Walk0 := by
  intro w s₀ s₁ mg mb G Y a o pm cd doc dV kV ho hd hcd hdf hmg hgens args vals as hpre hlay hrd hwell hlo
  obtain ⟨h1, h2⟩ := pre_splitW hpre
  obtain ⟨d1, r1, rfl, hl, h3⟩ := hasAllW_cons h1
  obtain rfl := hasAllW_nil h3
  obtain ⟨xs, rfl, hit⟩ := hasW_list hl
  obtain ⟨ns, rfl⟩ := items_int hit
  have hz := pre_len h2
  have hdV : dV = .none := by
    rcases hdf.pos with h | h
    · exact h.2
    · exact absurd rfl h.1
  have hkV : kV = .none := by
    rcases hdf.kw with h | h
    · exact h.2
    · exact absurd rfl h.1
  subst hdV hkV
  cases hrd with
  | cons hr1 hr2 =>
  cases hr2
  cases hr1 with
  | @list sa lo lvs ln _ _ hlo' hlc hld hlr =>
  have hint := ints_of_reads hlr
  have hX : (Hd.KK w.params).In s₁.heap := kIn_of Y
  have hS : s₁.heap.IsList sa lvs := ⟨lo, hlo', hlc, ln, hld⟩
  let L := s₁.heap.objs.size
  show wpAny (model Hd.pw w) callerA (call (.ref a) [.ref sa] []) _ _ s₁
  refine wpAny_call (codeAny_call_function (by decide) ho hd (by rfl) (by rfl) rfl hcd ?_)
  refine (BindsTo.of_eq (binds := [(S "script", .ref sa)]) (by rfl)) _ _ _ _ ?_
  refine wpAny_newFunctionEnv_cells (by rfl) (fun x hx => ?_) fun env' he s' x => ?_
  · rcases List.mem_singleton.mp hx with rfl
    exact .inr ⟨by rfl, by rfl⟩
  subst he
  refine ⟨G.T.nolimit.keeps x.toInCall.keep, codeAny_func ?_⟩
  obtain ⟨h1', tk, rfl, _⟩ := x.done
  have hk1 := x.toInCall.keep
  let c : Cx := { w := w, mg := mg, mb := mb, os := s₁.os, A := callerA.deeper (envX "law" (Hd.fScope lawS) s₁.heap.objs.size a cd (cellsFrom (s₁.heap.objs.size + 1) (Hd.fScope lawS).names [])), h₀ := s₁.heap, L := s₁.heap.objs.size }
  have S0 : ST c (bindL (fun y => (Hd.fScope lawS).names.lookup y) [(S "script", .ref sa)] fun _ => none) (fun _ => none) { s₁ with heap := h1', toks := tk } :=
    ⟨hX, topRead_of G.T, ⟨x.toInCall.ns, hk1, Nat.le_refl _⟩, (fun y n e => by cases e), (fun y n a e => by cases e), (fun y z n n' a e => by cases e), hgens, rfl⟩
  have S1 := ST.cells (lo := s₁.heap.objs.size + 1) [(S "low", s₁.heap.objs.size + 1 + 1, none), (S "script", s₁.heap.objs.size + 1, some (.ref sa))] S0 (fun z hz => ?_) (by
      refine List.pairwise_cons.mpr ⟨fun z hz => ?_, List.pairwise_singleton _ _⟩
      rcases List.mem_singleton.mp hz with rfl
      exact Nat.ne_of_gt (Nat.lt_succ_self _)) (Nat.lt_succ_self _)
    (fun a o e => Nat.lt_succ_of_lt (Heap.lt_size e)) (fun y n a e => by cases e)
  · have room : Room c.A 61 := by
      refine ⟨?_, ?_, rfl⟩
      · show 1 + claimMargin + 1 + 2 * 61 < recursionLimit; decide
      · show 4 + 3 + 8 * 61 < cLine; decide
    have fin := (law_body (c := c) (m := bindL (fun y => (Hd.fScope lawS).names.lookup y) [(S "script", .ref sa)] fun _ => none) (σ := putC (fun _ => none) [(S "low", s₁.heap.objs.size + 1 + 1, none), (S "script", s₁.heap.objs.size + 1, some (.ref sa))]) (fa := a) (cd := cd) (v0 := none) room (sa := sa) (sv := lvs.toList) (script := ns) (put_ne (Nat.ne_of_lt (Nat.lt_succ_self _)) |>.trans (put_self _ _ _)) (put_self _ _ _) (by show s₁.heap.IsList sa lvs.toList.toArray; rw [Array.toArray_toList]; exact hS) hint hz).run _ S1
    refine wpAny_mono fin (fun fl s' ⟨m', σ', T, q⟩ => ?_) fun _ _ e => e.elim
    show GoodWG _ _ _ _ _ (.ok (.ret (retv fl))) _
    rw [q]
    exact ⟨.inl ⟨.bool true, .bool true, [], rfl, fun cls => rfl, .bool true, post_ok _ _, fun _ => ⟨List.nodup_nil, fun a h => by cases h⟩⟩, OldK.of_keep T.f.keep, T.os, AllBare.of_eq T.gens⟩
  · rcases List.mem_cons.mp hz with rfl | hz
    · exact ⟨x.cell (S "low") (s₁.heap.objs.size + 1 + 1) (by rfl), Nat.le_succ _⟩
    · rcases List.mem_singleton.mp hz with rfl
      exact ⟨x.cell (S "script") (s₁.heap.objs.size + 1) (by rfl), Nat.le_refl _⟩
end Mine
theorem PySem.Challenge.cw_ah0049_01_holds : PySem.Challenge.rw_ah0049_01.Holds := by
  exact Mine.Hd.hd Mine.walk0
