import PyProof.Rows.All
import Wide.All
import OpenK.AllK
import OpenK.ZRun
import Wide.FinOn
import PySem.Challenge.RW_wa0020_01
set_option Elab.async false
set_option genSizeOf false
set_option genInjectivity false
set_option bootstrap.genMatcherCode false
set_option maxRecDepth 100000
set_option tactic.hygienic false
set_option maxHeartbeats 1000000
open PySem.Heap (ExtBut IsSliceOf SameBut get?_push_of_some get?_push_size get?_update_self lt_size size_push)
open Nat (add_assoc add_comm add_le_add add_le_add_left add_lt_add_of_le_of_lt beq beq_refl div_add_mod le_add_right le_of_eq le_of_lt le_of_not_lt le_refl le_succ le_succ_of_le le_trans lt_irrefl lt_of_le_of_lt lt_of_lt_of_le lt_succ_of_le lt_succ_of_lt lt_succ_self lt_trans min_eq_left mod_eq_of_lt mod_lt mul_comm ne_of_gt ne_of_lt not_le not_lt not_lt_zero sub_le sub_lt xor_lt_two_pow xor_self xor_zero zero_add zero_le zero_xor)
open Option (bind_some isNone_iff_eq_none isSome_iff_exists map_eq_some_iff map_some)
open List (Nodup Pairwise all_eq_true any_eq_true append_assoc append_nil countP_le_length drop_drop filterMap_cons foldl_cons forIn_cons forall_mem_cons getD_eq_getElem?_getD getElem?_append_left getElem?_append_right getElem?_eq_getElem getElem?_map getElem_of_mem isEmpty_iff length length_cons length_drop length_map length_range length_set length_take lookup_cons lookup_eq_none_iff map_append map_cons map_map map_nil mem_append mem_append_right mem_cons mem_cons_of_mem mem_cons_self mem_filter mem_iff_getElem? mem_map mem_of_getElem? mem_range mem_singleton nodup_cons not_mem_nil of_mem_zip prefix_refl range' range'_succ replicate size_toArray sum_cons take_left take_length take_of_length_le toArray zipIdx_cons)
open Bool (and_eq_true and_eq_true_iff eq_false_iff false_eq_true not_eq_true' or_eq_false_iff or_eq_true)
open Classical (byContradiction em)
open Int (fdiv fmod fmod_lt_of_pos fmod_nonneg_of_pos natCast_nonneg ofNat ofNat_le ofNat_lt toNat_le toNat_lt toNat_natCast toNat_of_nonneg)
open PySem.PyData (canLayAll0 depthAll eqv eqvAll keyHash)
open Array (getElem?_toList length_toList toList_append toList_inj toList_push)
open PySem.Str (ext' join ofString)
open PySem.Obj (mapFields mapSeq putName)
open PySem.Value (builtin noConfusion rec type)
namespace Mine
section
variable{G P Q R S:Prop}{α β γ δ ε α0 α1 α2 α3 α4 α5 α6 α7 α8:Sort _}
theorem cps(h:∀P:Prop,(G→P)→P):G:=h G id
theorem au(h:P∧Q)(k:P→Q→G):G:=by
 obtain⟨h0,h1⟩:=h;exact k h0 h1
theorem bO(h:P∧Q∧R)(k:P→Q→R→G):G:=by
 obtain⟨h0,h1,h2⟩:=h;exact k h0 h1 h2
theorem gQ(h:P∧Q∧R∧S)(k:P→Q→R→S→G):G:=by
 obtain⟨h0,h1,h2,h3⟩:=h;exact k h0 h1 h2 h3
theorem CF{T:Prop}(h:P∧Q∧R∧S∧T)(k:P→Q→R→S→T→G):G:=by
 obtain⟨h0,h1,h2,h3,h4⟩:=h;exact k h0 h1 h2 h3 h4
theorem aA{P:α→Prop}(h:∃a,P a)(k:∀a,P a→G):G:=by
 obtain⟨a,h0⟩:=h;exact k a h0
theorem aj{P Q:α→Prop}(h:∃a,P a∧Q a)(k:∀a,P a→Q a→G):G:=by
 obtain⟨a,h0,h1⟩:=h;exact k a h0 h1
theorem bQ{P Q R:α→Prop}(h:∃a,P a∧Q a∧R a)(k:∀a,P a→Q a→R a→G):G:=by
 obtain⟨a,h0,h1,h2⟩:=h;exact k a h0 h1 h2
theorem qW{P Q R S T:α→Prop}(h:∃a,P a∧Q a∧R a∧S a∧T a)(k:∀a,P a→Q a→R a→S a→T a→G):G:=by
 obtain⟨a,h0,h1,h2,h3,h4⟩:=h;exact k a h0 h1 h2 h3 h4
theorem fq{P:α→β→Prop}(h:∃a,∃b,P a b)(k:∀a b,P a b→G):G:=by
 obtain⟨a,b,h0⟩:=h;exact k a b h0
theorem bK{P Q:α→β→Prop}(h:∃a,∃b,P a b∧Q a b)(k:∀a b,P a b→Q a b→G):G:=by
 obtain⟨a,b,h0,h1⟩:=h;exact k a b h0 h1
theorem bw{P Q R:α→β→Prop}(h:∃a,∃b,P a b∧Q a b∧R a b)(k:∀a b,P a b→Q a b→R a b→G):G:=by
 obtain⟨a,b,h0,h1,h2⟩:=h;exact k a b h0 h1 h2
theorem bV{P Q R S:α→β→Prop}(h:∃a,∃b,P a b∧Q a b∧R a b∧S a b)(k:∀a b,P a b→Q a b→R a b→S a b→G):G:=by
 obtain⟨a,b,h0,h1,h2,h3⟩:=h;exact k a b h0 h1 h2 h3
theorem lC{P Q R S T:α→β→Prop}(h:∃a,∃b,P a b∧Q a b∧R a b∧S a b∧T a b)(k:∀a b,P a b→Q a b→R a b→S a b→T a b→G):G:=by
 obtain⟨a,b,h0,h1,h2,h3,h4⟩:=h;exact k a b h0 h1 h2 h3 h4
theorem CG{P Q R S T U:α→β→Prop}(h:∃a,∃b,P a b∧Q a b∧R a b∧S a b∧T a b∧U a b)(k:∀a b,P a b→Q a b→R a b→S a b→T a b→U a b→G):G:=by
 obtain⟨a,b,h0,h1,h2,h3,h4,h5⟩:=h;exact k a b h0 h1 h2 h3 h4 h5
theorem CI{P Q R S T U V:α→β→Prop}(h:∃a,∃b,P a b∧Q a b∧R a b∧S a b∧T a b∧U a b∧V a b)(k:∀a b,P a b→Q a b→R a b→S a b→T a b→U a b→V a b→G):G:=by
 obtain⟨a,b,h0,h1,h2,h3,h4,h5,h6⟩:=h;exact k a b h0 h1 h2 h3 h4 h5 h6
theorem lD{P:α→β→γ→Prop}(h:∃a,∃b,∃c,P a b c)(k:∀a b c,P a b c→G):G:=by
 obtain⟨a,b,c,h0⟩:=h;exact k a b c h0
theorem bG{P Q:α→β→γ→Prop}(h:∃a,∃b,∃c,P a b c∧Q a b c)(k:∀a b c,P a b c→Q a b c→G):G:=by
 obtain⟨a,b,c,h0,h1⟩:=h;exact k a b c h0 h1
theorem dw{P Q R:α→β→γ→Prop}(h:∃a,∃b,∃c,P a b c∧Q a b c∧R a b c)(k:∀a b c,P a b c→Q a b c→R a b c→G):G:=by
 obtain⟨a,b,c,h0,h1,h2⟩:=h;exact k a b c h0 h1 h2
theorem cY{P Q R S:α→β→γ→Prop}(h:∃a,∃b,∃c,P a b c∧Q a b c∧R a b c∧S a b c)(k:∀a b c,P a b c→Q a b c→R a b c→S a b c→G):G:=by
 obtain⟨a,b,c,h0,h1,h2,h3⟩:=h;exact k a b c h0 h1 h2 h3
theorem LA{P Q R S T:α→β→γ→Prop}(h:∃a,∃b,∃c,P a b c∧Q a b c∧R a b c∧S a b c∧T a b c)(k:∀a b c,P a b c→Q a b c→R a b c→S a b c→T a b c→G):G:=by
 obtain⟨a,b,c,h0,h1,h2,h3,h4⟩:=h;exact k a b c h0 h1 h2 h3 h4
theorem LB{P Q R S T U:α→β→γ→Prop}(h:∃a,∃b,∃c,P a b c∧Q a b c∧R a b c∧S a b c∧T a b c∧U a b c)(k:∀a b c,P a b c→Q a b c→R a b c→S a b c→T a b c→U a b c→G):G:=by
 obtain⟨a,b,c,h0,h1,h2,h3,h4,h5⟩:=h;exact k a b c h0 h1 h2 h3 h4 h5
theorem o9{P:α→β→γ→δ→Prop}(h:∃a,∃b,∃c,∃d,P a b c d)(k:∀a b c d,P a b c d→G):G:=by
 obtain⟨a,b,c,d,h0⟩:=h;exact k a b c d h0
theorem fu{P Q:α→β→γ→δ→Prop}(h:∃a,∃b,∃c,∃d,P a b c d∧Q a b c d)(k:∀a b c d,P a b c d→Q a b c d→G):G:=by
 obtain⟨a,b,c,d,h0,h1⟩:=h;exact k a b c d h0 h1
theorem tW{P Q R:α→β→γ→δ→Prop}(h:∃a,∃b,∃c,∃d,P a b c d∧Q a b c d∧R a b c d)(k:∀a b c d,P a b c d→Q a b c d→R a b c d→G):G:=by
 obtain⟨a,b,c,d,h0,h1,h2⟩:=h;exact k a b c d h0 h1 h2
theorem tX{P Q R S:α→β→γ→δ→Prop}(h:∃a,∃b,∃c,∃d,P a b c d∧Q a b c d∧R a b c d∧S a b c d)(k:∀a b c d,P a b c d→Q a b c d→R a b c d→S a b c d→G):G:=by
 obtain⟨a,b,c,d,h0,h1,h2,h3⟩:=h;exact k a b c d h0 h1 h2 h3
theorem iH{P Q R S T:α→β→γ→δ→Prop}(h:∃a,∃b,∃c,∃d,P a b c d∧Q a b c d∧R a b c d∧S a b c d∧T a b c d)(k:∀a b c d,P a b c d→Q a b c d→R a b c d→S a b c d→T a b c d→G):G:=by
 obtain⟨a,b,c,d,h0,h1,h2,h3,h4⟩:=h;exact k a b c d h0 h1 h2 h3 h4
theorem tY{P:α→β→γ→δ→ε→Prop}(h:∃a,∃b,∃c,∃d,∃e,P a b c d e)(k:∀a b c d e,P a b c d e→G):G:=by
 obtain⟨a,b,c,d,e,h0⟩:=h;exact k a b c d e h0
theorem CJ{P Q:α→β→γ→δ→ε→Prop}(h:∃a,∃b,∃c,∃d,∃e,P a b c d e∧Q a b c d e)(k:∀a b c d e,P a b c d e→Q a b c d e→G):G:=by
 obtain⟨a,b,c,d,e,h0,h1⟩:=h;exact k a b c d e h0 h1
theorem CP{P0 P1 P2 P3 P4 P5 P6 P7 P8 P9:α0→α1→α2→α3→α4→α5→α6→α7→α8→Prop}(h:∃a0,∃a1,∃a2,∃a3,∃a4,∃a5,∃a6,∃a7,∃a8,P0 a0 a1 a2 a3 a4 a5 a6 a7 a8∧P1 a0 a1 a2 a3 a4 a5 a6 a7 a8∧P2 a0 a1 a2 a3 a4 a5 a6 a7 a8∧P3 a0 a1 a2 a3 a4 a5 a6 a7 a8∧P4 a0 a1 a2 a3 a4 a5 a6 a7 a8∧P5 a0 a1 a2 a3 a4 a5 a6 a7 a8∧P6 a0 a1 a2 a3 a4 a5 a6 a7 a8∧P7 a0 a1 a2 a3 a4 a5 a6 a7 a8∧P8 a0 a1 a2 a3 a4 a5 a6 a7 a8∧P9 a0 a1 a2 a3 a4 a5 a6 a7 a8)(k:∀a0 a1 a2 a3 a4 a5 a6 a7 a8,P0 a0 a1 a2 a3 a4 a5 a6 a7 a8→P1 a0 a1 a2 a3 a4 a5 a6 a7 a8→P2 a0 a1 a2 a3 a4 a5 a6 a7 a8→P3 a0 a1 a2 a3 a4 a5 a6 a7 a8→P4 a0 a1 a2 a3 a4 a5 a6 a7 a8→P5 a0 a1 a2 a3 a4 a5 a6 a7 a8→P6 a0 a1 a2 a3 a4 a5 a6 a7 a8→P7 a0 a1 a2 a3 a4 a5 a6 a7 a8→P8 a0 a1 a2 a3 a4 a5 a6 a7 a8→P9 a0 a1 a2 a3 a4 a5 a6 a7 a8→G):G:=by
 obtain (⟨a0,a1,a2,a3,a4,a5,a6,a7,a8,h0,h1,h2,h3,h4,h5,h6,h7,h8,h9⟩):=h;exact k a0 a1 a2 a3 a4 a5 a6 a7 a8 h0 h1 h2 h3 h4 h5 h6 h7 h8 h9
theorem LF{P0 P1 P2 P3 P4 P5 P6:α0→α1→α2→α3→α4→α5→α6→α7→Prop}(h:∃a0,∃a1,∃a2,∃a3,∃a4,∃a5,∃a6,∃a7,P0 a0 a1 a2 a3 a4 a5 a6 a7∧P1 a0 a1 a2 a3 a4 a5 a6 a7∧P2 a0 a1 a2 a3 a4 a5 a6 a7∧P3 a0 a1 a2 a3 a4 a5 a6 a7∧P4 a0 a1 a2 a3 a4 a5 a6 a7∧P5 a0 a1 a2 a3 a4 a5 a6 a7∧P6 a0 a1 a2 a3 a4 a5 a6 a7)(k:∀a0 a1 a2 a3 a4 a5 a6 a7,P0 a0 a1 a2 a3 a4 a5 a6 a7→P1 a0 a1 a2 a3 a4 a5 a6 a7→P2 a0 a1 a2 a3 a4 a5 a6 a7→P3 a0 a1 a2 a3 a4 a5 a6 a7→P4 a0 a1 a2 a3 a4 a5 a6 a7→P5 a0 a1 a2 a3 a4 a5 a6 a7→P6 a0 a1 a2 a3 a4 a5 a6 a7→G):G:=by
 obtain (⟨a0,a1,a2,a3,a4,a5,a6,a7,h0,h1,h2,h3,h4,h5,h6⟩):=h;exact k a0 a1 a2 a3 a4 a5 a6 a7 h0 h1 h2 h3 h4 h5 h6
theorem Lw{α9:Sort _}{WK:Sort _}{WL:Sort _}{WM:Sort _}{P0 P1:α0→α1→α2→α3→α4→α5→α6→α7→α8→α9→WK→WL→WM→Prop}(h:∃a0,∃a1,∃a2,∃a3,∃a4,∃a5,∃a6,∃a7,∃a8,∃a9,∃a10,∃a11,∃a12,P0 a0 a1 a2 a3 a4 a5 a6 a7 a8 a9 a10 a11 a12∧P1 a0 a1 a2 a3 a4 a5 a6 a7 a8 a9 a10 a11 a12)(k:∀a0 a1 a2 a3 a4 a5 a6 a7 a8 a9 a10 a11 a12,P0 a0 a1 a2 a3 a4 a5 a6 a7 a8 a9 a10 a11 a12→P1 a0 a1 a2 a3 a4 a5 a6 a7 a8 a9 a10 a11 a12→G):G:=by
 obtain (⟨a0,a1,a2,a3,a4,a5,a6,a7,a8,a9,a10,a11,a12,h0,h1⟩):=h;exact k a0 a1 a2 a3 a4 a5 a6 a7 a8 a9 a10 a11 a12 h0 h1
theorem CN{P0 P1 P2 P3 P4 P5 P6 P7 P8:α0→α1→α2→α3→α4→Prop}(h:∃a0,∃a1,∃a2,∃a3,∃a4,P0 a0 a1 a2 a3 a4∧P1 a0 a1 a2 a3 a4∧P2 a0 a1 a2 a3 a4∧P3 a0 a1 a2 a3 a4∧P4 a0 a1 a2 a3 a4∧P5 a0 a1 a2 a3 a4∧P6 a0 a1 a2 a3 a4∧P7 a0 a1 a2 a3 a4∧P8 a0 a1 a2 a3 a4)(k:∀a0 a1 a2 a3 a4,P0 a0 a1 a2 a3 a4→P1 a0 a1 a2 a3 a4→P2 a0 a1 a2 a3 a4→P3 a0 a1 a2 a3 a4→P4 a0 a1 a2 a3 a4→P5 a0 a1 a2 a3 a4→P6 a0 a1 a2 a3 a4→P7 a0 a1 a2 a3 a4→P8 a0 a1 a2 a3 a4→G):G:=by
 obtain (⟨a0,a1,a2,a3,a4,h0,h1,h2,h3,h4,h5,h6,h7,h8⟩):=h;exact k a0 a1 a2 a3 a4 h0 h1 h2 h3 h4 h5 h6 h7 h8
theorem LD{P0:α0→α1→α2→α3→α4→α5→Prop}(h:∃a0,∃a1,∃a2,∃a3,∃a4,∃a5,P0 a0 a1 a2 a3 a4 a5)(k:∀a0 a1 a2 a3 a4 a5,P0 a0 a1 a2 a3 a4 a5→G):G:=by
 obtain (⟨a0,a1,a2,a3,a4,a5,h0⟩):=h;exact k a0 a1 a2 a3 a4 a5 h0
theorem O5{P0 P1 P2 P3 P4 P5 P6 P7 P8:α0→α1→α2→α3→α4→α5→α6→α7→α8→Prop}(a0:α0)(a1:α1)(a2:α2)(a3:α3)(a4:α4)(a5:α5)(a6:α6)(a7:α7)(a8:α8)(h0:P0 a0 a1 a2 a3 a4 a5 a6 a7 a8)(h1:P1 a0 a1 a2 a3 a4 a5 a6 a7 a8)(h2:P2 a0 a1 a2 a3 a4 a5 a6 a7 a8)(h3:P3 a0 a1 a2 a3 a4 a5 a6 a7 a8)(h4:P4 a0 a1 a2 a3 a4 a5 a6 a7 a8)(h5:P5 a0 a1 a2 a3 a4 a5 a6 a7 a8)(h6:P6 a0 a1 a2 a3 a4 a5 a6 a7 a8)(h7:P7 a0 a1 a2 a3 a4 a5 a6 a7 a8)(h8:P8 a0 a1 a2 a3 a4 a5 a6 a7 a8):∃a0,∃a1,∃a2,∃a3,∃a4,∃a5,∃a6,∃a7,∃a8,P0 a0 a1 a2 a3 a4 a5 a6 a7 a8∧P1 a0 a1 a2 a3 a4 a5 a6 a7 a8∧P2 a0 a1 a2 a3 a4 a5 a6 a7 a8∧P3 a0 a1 a2 a3 a4 a5 a6 a7 a8∧P4 a0 a1 a2 a3 a4 a5 a6 a7 a8∧P5 a0 a1 a2 a3 a4 a5 a6 a7 a8∧P6 a0 a1 a2 a3 a4 a5 a6 a7 a8∧P7 a0 a1 a2 a3 a4 a5 a6 a7 a8∧P8 a0 a1 a2 a3 a4 a5 a6 a7 a8:=⟨a0,a1,a2,a3,a4,a5,a6,a7,a8,h0,h1,h2,h3,h4,h5,h6,h7,h8⟩
theorem O4{P0 P1 P2 P3 P4 P5 P6:α0→α1→α2→α3→α4→α5→α6→α7→Prop}(a0:α0)(a1:α1)(a2:α2)(a3:α3)(a4:α4)(a5:α5)(a6:α6)(a7:α7)(h0:P0 a0 a1 a2 a3 a4 a5 a6 a7)(h1:P1 a0 a1 a2 a3 a4 a5 a6 a7)(h2:P2 a0 a1 a2 a3 a4 a5 a6 a7)(h3:P3 a0 a1 a2 a3 a4 a5 a6 a7)(h4:P4 a0 a1 a2 a3 a4 a5 a6 a7)(h5:P5 a0 a1 a2 a3 a4 a5 a6 a7)(h6:P6 a0 a1 a2 a3 a4 a5 a6 a7):∃a0,∃a1,∃a2,∃a3,∃a4,∃a5,∃a6,∃a7,P0 a0 a1 a2 a3 a4 a5 a6 a7∧P1 a0 a1 a2 a3 a4 a5 a6 a7∧P2 a0 a1 a2 a3 a4 a5 a6 a7∧P3 a0 a1 a2 a3 a4 a5 a6 a7∧P4 a0 a1 a2 a3 a4 a5 a6 a7∧P5 a0 a1 a2 a3 a4 a5 a6 a7∧P6 a0 a1 a2 a3 a4 a5 a6 a7:=⟨a0,a1,a2,a3,a4,a5,a6,a7,h0,h1,h2,h3,h4,h5,h6⟩
end
end Mine
section
open PySem
namespace Mine
section
variable{M:Model}{Γ:Ctx}{p:Pos}{s s':Shared}
noncomputable abbrev hsz(s:Shared):Nat:=s.heap.objs.size
theorem vM{t:Sem Fin}{fs:List Frame}{e:End}(h:Runs M Γ p t fs s e s'):hsz s≤hsz s':=by
 induction h<;>(try simp only [Shared.setGen,hsz,size_push,Heap.size_after_update] at *)<;>lia
theorem Wm{g:Nat}{r:Resume}{res:GenResult}(h:Wakes M Γ p g r s res s'):hsz s≤hsz s':=by
 have key:∀{c:Code} {t:Sem Fin} {fs:List Frame} {e₁:End} {s₁:Shared} {Γ':Ctx} {p':Pos},Runs M Γ' p' t fs (s.setGen g .running) e₁ s₁→hsz s≤hsz s₁:=fun hr=>(vM hr:hsz (s.setGen g .running)≤_);unfold Wakes at h
 split at h
 ·exact h.elim
 ·split at h
  ·refine bV h ?_;clear h;rintro e₁ s₁ hr _ _ rfl;exact (vM hr:hsz (s.setGen g .running)≤_)
  ·rw [h.2];exact le_refl _
  ·rw [h.2];exact le_refl _
 ·refine bV h ?_;clear h;rintro e₁ s₁ hr _ _ rfl;exact (vM hr:hsz (s.setGen g .running)≤_)
 ·rw [h.2];exact le_refl _
 ·rw [h.2];exact le_refl _
theorem WD{α:Type}(M:Model)(Γ:Ctx)(n:Nat)(t:Sem α):∀(Q:α→Pos→Shared→Prop) (E:Value→Pos→Shared→Prop) (p:Pos) (s:Shared),n≤hsz s→Sem.wp M Γ t Q E p s→
 Sem.wp M Γ t (fun a p' s'=>n≤hsz s'∧Q a p' s') (fun e p' s'=>n≤hsz s'∧E e p' s') p s:=by
 induction t with
 | pure a=>intro Q E p s hn h;exact⟨hn,h⟩
 | raise e=>intro Q E p s hn h;exact⟨hn,h⟩
 | unsupported _=>intro Q E p s _ h;exact h
 | finish _=>intro Q E p s _ h;exact h
 | rule _ k ih=>intro Q E p s hn h;exact ih () Q E p s hn h
 | «at» p' k ih=>intro Q E p s hn h;exact ih () Q E p' s hn h
 | load a _ k ih=>intro Q E p s hn h;refine aj h ?_;clear h;intro o ho h;exact⟨o,ho,ih o Q E p s hn h⟩
 | update a _ f k ih=>intro Q E p s hn h;exact⟨h.1,ih () Q E p _ (by simp only [hsz,Heap.size_after_update];exact hn) h.2⟩
 | loadIfAlive a k ih=>intro Q E p s hn h;exact ih _ Q E p s hn h
 | point _ k ih=>intro Q E p s hn h;exact ih () Q E p s hn h
 | register _ _=>intro Q E p s _ h;exact h
 | alloc o k ih=>intro Q E p s hn h;exact ih _ Q E p _ (by simp only [hsz,size_push];exact le_succ_of_le hn) h
 | fresh k ih=>intro Q E p s hn h;exact ih _ Q E p _ hn h
 | ask k ih=>intro Q E p s hn h;exact ih _ Q E p s hn h
 | choose src m k ih=>intro Q E p s hn h;exact⟨h.1,ih _ Q E p _ hn h.2⟩
 | os q _ k ih=>intro Q E p s hn h;exact ih _ Q E p _ hn h
 | call c hd _ _ k ih=>intro Q E p s hn h;refine bK h ?_;clear h;intro r s' hr h;exact⟨r,s',hr,ih r Q E p s' (le_trans hn (vM hr)) h⟩
 | handled own k ih=>intro Q E p s hn h;exact ih _ Q E p s hn h
 | genState g k ih=>intro Q E p s hn h;refine aj h ?_;clear h;intro st hs h;exact⟨st,hs,ih _ Q E p s hn h⟩
 | newGen c k ih=>intro Q E p s hn h;exact ih _ Q E p _ hn h
 | resume g r _ k ih=>intro Q E p s hn h;refine bK h ?_;clear h;intro res s' hw h;exact⟨res,s',hw,ih res Q E p s' (le_trans hn (Wm hw)) h⟩
 | yield _ _ _ _=>intro Q E p s _ h;exact h
 | stack k ih=>intro Q E p s hn h;exact ih _ Q E p s hn h
 | fork _ _=>intro Q E p s _ h;exact h
 | thread k ih=>intro Q E p s hn h;exact ih _ Q E p s hn h
 | await _ _ _ _ _=>intro Q E p s _ h;exact h
section
variable{α:Type}{M:Model}{A:Around}{s:Shared}
theorem mR{t:Sem α}{Q:α→Shared→Prop}{E:Value→Shared→Prop}{n:Nat}(hn:n≤hsz s)
 (h:wpAny M A t (fun a s'=>n≤hsz s'→Q a s') (fun e s'=>n≤hsz s'→E e s') s):wpAny M A t Q E s:=
 wpAny_mono (fun Γ p hΓ=>WD M Γ n t _ _ p s hn (h Γ p hΓ):wpAny M A t (fun a s'=>n≤hsz s'∧(n≤hsz s'→Q a s')) (fun e s'=>n≤hsz s'∧(n≤hsz s'→E e s')) s)
  (fun Z Z x=>x.2 x.1) (fun Z Z x=>x.2 x.1)
end
end
end Mine
end
section
open PySem PySem.W PyProof.Rows
namespace Mine
section
variable{E:Value→Shared→Prop}{s:Shared}{α β α' γ:Type}{C c G:Prop}{M:Model}{A:Around}{l l':List (Addr×Addr)}{a:Addr}{h h':Heap}{vs:List Value}{v:Value}{i:Nat}{cl:Bool}{o:Obj}{p:Addr×Addr}
theorem wm{α}{M A}{t:Sem α}{Q Q':α→Shared→Prop}(h:wpAny M A t Q E s)(hQ:∀a s,Q a s→Q' a s):wpAny M A t Q' E s:=wpAny_mono h hQ fun Z Z x=>x
theorem nn{x:α}(h:none=some x):C:=by cases h
theorem ff(h:false=true):C:=by cases h
theorem xx{x:Option α}{f:α→Option β}{y:β}(h:x.bind f=some y):∃a,x=some a∧f a=some y:=Option.bind_eq_some_iff.mp h
theorem vd{x:Option α}{f:α→β}{y:β}(h:x.map f=some y):∃a,x=some a∧f a=y:=map_eq_some_iff.mp h
theorem jO[Decidable c]{x y:α}(h:(if c then some x else none)=some y):c∧x=y:=by
 by_cases hc:c
 ·rw [if_pos hc] at h;exact⟨hc,Option.some.inj h⟩
 ·rw [if_neg hc] at h;exact nn h
theorem nI[Decidable c]{x:Option α}{y:α}(h:(if c then x else none)=some y):c∧x=some y:=by
 by_cases hc:c
 ·rw [if_pos hc] at h;exact⟨hc,h⟩
 ·rw [if_neg hc] at h;exact nn h
theorem Ex[Decidable c]{x:Option α}{y:α}(h:(if c then none else x)=some y):¬c∧x=some y:=by
 by_cases hc:c
 ·rw [if_pos hc] at h;exact nn h
 ·rw [if_neg hc] at h;exact⟨hc,h⟩
theorem cJ[Decidable c]{x z:Option α}{y:α}(h:(if c then x else z)=some y):(c∧x=some y)∨(¬c∧z=some y):=by
 by_cases hc:c
 ·rw [if_pos hc] at h;exact .inl ⟨hc,h⟩
 ·rw [if_neg hc] at h;exact .inr ⟨hc,h⟩
theorem sD{x y:Option α}{z:α}(h:x.or y=some z):x=some z∨y=some z:=by
 cases x with
 | none=>exact .inr h
 | some a=>exact .inl h
theorem aH{x:Option α}{f:α→Option β}{y:β}(h:x.bind f=some y)(k:∀a,x=some a→f a=some y→G):G:=let⟨a,h1,h2⟩:=xx h;k a h1 h2
theorem aY{x:Option (α×α')}{f:α×α'→Option β}{y:β}(h:x.bind f=some y)(k:∀a b,x=some (a,b)→f (a,b)=some y→G):G:=aH h fun p=>k p.1 p.2
theorem fL{x:Option (α×α'×γ)}{f:α×α'×γ→Option β}{y:β}(h:x.bind f=some y)(k:∀a b c,x=some (a,b,c)→f (a,b,c)=some y→G):G:=aH h fun p=>k p.1 p.2.1 p.2.2
theorem bW{x:Option α}{f:α→β}{y:β}(h:x.map f=some y)(k:∀a,x=some a→f a=y→G):G:=let⟨a,h1,h2⟩:=vd h;k a h1 h2
theorem jS{x:Option (α×α')}{f:α×α'→β}{y:β}(h:x.map f=some y)(k:∀a b,x=some (a,b)→f (a,b)=y→G):G:=bW h fun p=>k p.1 p.2
theorem RB{x:Option (α×α'×γ)}{f:α×α'×γ→β}{y:β}(h:x.map f=some y)(k:∀a b c,x=some (a,b,c)→f (a,b,c)=y→G):G:=bW h fun p=>k p.1 p.2.1 p.2.2
theorem bJ[Decidable c]{x y:α}(h:(if c then some x else none)=some y)(k:c→x=y→G):G:=let⟨a,b⟩:=jO h;k a b
theorem bZ[Decidable c]{x:Option α}{y:α}(h:(if c then x else none)=some y)(k:c→x=some y→G):G:=let⟨a,b⟩:=nI h;k a b
theorem zg[Decidable c]{x:Option α}{y:α}(h:(if c then none else x)=some y)(k:¬c→x=some y→G):G:=let⟨a,b⟩:=Ex h;k a b
theorem fH{a b:Sem α}{Q:α→Shared→Prop}{c:Bool}(h:c=false)(k:wpAny M A b Q E s):wpAny M A (if c=true then a else b) Q E s:=by rw [h];exact k
theorem WC{a b:Sem α}{Q:α→Shared→Prop}{c:Bool}(h:c=true)(k:wpAny M A a Q E s):wpAny M A (if c=true then a else b) Q E s:=by rw [h];exact k
theorem lV(x y:Str)(u:α)(r:List (Str×α)):((y,u)::r).lookup x=if x=y then some u else r.lookup x:=by
 rw [lookup_cons]
 by_cases h:x=y
 ·rw [if_pos h,h,beq_self_eq_true]
 ·rw [if_neg h,beq_false_of_ne h]
theorem u0{x y:Str}{u v:α}{r:List (Str×α)}(h:((y,u)::r).lookup x=some v):x=y∧u=v∨x≠y∧r.lookup x=some v:=by
 rw [lV] at h;rcases cJ h with⟨a,b⟩|h
 ·exact .inl ⟨a,Option.some.inj b⟩
 ·exact .inr h
theorem fT{a c:α}{b d:β}(h:some (a,b)=some (c,d)):a=c∧b=d:=Prod.mk.inj (Option.some.inj h)
theorem Ad{a c:α}{b d:β}{e f:γ}(h:(a,b,e)=(c,d,f)):a=c∧b=d∧e=f:=by cases h;exact⟨rfl,rfl,rfl⟩
theorem jz{a c:α}{b d:β}{e f:γ}(h:some (a,b,e)=some (c,d,f)):a=c∧b=d∧e=f:=⟨(fT h).1,Prod.mk.inj (fT h).2⟩
structure fU where
 params:Arguments
 body:Expr
 scope:Scope
 caps:List Str
 qual:Str
inductive V where
 | none
 | bool (b:Bool)
 | int (i:Int)
 | str (s:Str)
 | tup (l:List V)
 | lst (l:List V)
 | loc (n:Nat)
 | base (a:Addr)
 | bi (id:String)
 | ty (name:String)
 | aE (S:fU) (caps:List V)
mutual
noncomputable def V.plain:V→Bool
 | .none=>true
 | .bool _=>true
 | .int _=>true
 | .str _=>true
 | .tup l=>V.bD l
 | .lst l=>V.bD l
 | .loc _=>true
 | .base _=>true
 | .bi _=>true
 | .ty _=>true
 | .aE _ _=>false
noncomputable def V.bD:List V→Bool
 | []=>true
 | v::r=>v.plain&&V.bD r
end
theorem eX{l:List V}:V.bD l=true↔∀v∈l,v.plain=true:=by
 induction l with
 | nil=>exact⟨fun Z v h=>(nomatch h),fun Z=>rfl⟩
 | cons v r ih=>show (v.plain&&V.bD r)=true↔_;rw [and_eq_true,ih,forall_mem_cons]
inductive bY where
 | list (l:List V)
 | iter (l:List V)
 | acc (init:Int) (l:List V)
noncomputable abbrev aa:=List bY
structure aB where
 ah:List (Addr×Addr)
 priv:List Addr
noncomputable def lp(l:List (Addr×Addr)):List Addr:=l.flatMap fun p=>[p.1,p.2]
noncomputable def fp(ρ:aB):List Addr:=lp ρ.ah++ρ.priv
theorem dj:a∈lp l↔∃p∈l,a=p.1∨a=p.2:=by
 simp [lp,List.mem_flatMap]
theorem pW:lp (l++l')=lp l++lp l':=by simp [lp]
theorem r9(h:l <+: l')(ha:a∈lp l):a∈lp l':=by
 refine aA h ?_;clear h;rintro t rfl;rw [pW];exact mem_append.mpr (.inl ha)
theorem aI{ρ:aB}:a∈fp ρ↔a∈lp ρ.ah∨a∈ρ.priv:=by simp [fp]
noncomputable abbrev nB:Nat:=213
noncomputable def isSeq(o:Obj):Prop:=∃xs n,o.data=.seq xs n
noncomputable def kF(o:Obj):Prop:=∃vs q t,o.data=.fields vs∧vs[1]?=some (.str q t)
noncomputable def pN(o:Obj):Prop:=(∃fd,o.data=.func fd)∨(∃v,o.data=.cell v)∨kF o
noncomputable def tB(cl:Bool)(o:Obj):Prop:=isSeq o∨(cl=true∧pN o)
noncomputable def PL(h:Heap)(a:Addr)(vs:Array Value):Prop:=∃n,h.get? a=some { cls:=.type "list",dict:=none,data:=.seq vs n,slots:=#[] }
noncomputable def PT(h:Heap)(a:Addr)(vs:Array Value):Prop:=∃n,h.get? a=some { cls:=.type "tuple",dict:=none,data:=.seq vs n,slots:=#[] }
theorem PL.is{vs:Array Value}(x:PL h a vs):h.IsList a vs:=let⟨n,e⟩:=x;⟨_,e,rfl,n,rfl⟩
theorem PT.is{vs:Array Value}(x:PT h a vs):h.IsTuple a vs:=let⟨n,e⟩:=x;⟨_,e,rfl,n,rfl⟩
inductive A9(S:fU)(a:Addr)(vs:List Value)(os:List (Addr×Obj)):Prop
 | mk (o:Obj) (fd:FuncData) (c:Addr) (co:Obj) (cs:List Addr) :
  (a,o)∈os→o.data=.func fd→fd.params=S.params→fd.body=.expr S.body→fd.scope=S.scope→fd.qualname=S.qual→
  fd.globals=mainGlobals→fd.builtins=builtinsNs→fd.defaults=.none→fd.kwdefaults=.none→
  fd.code=.ref c→(c,co)∈os→(∃ws t,co.data=.fields ws∧ws[1]?=some (.str S.qual t))→
  fd.closure=S.caps.zip cs→cs.length=S.caps.length→vs.length=S.caps.length→
  (∀p∈cs.zip vs,∃q,(p.1,q)∈os∧q.data=.cell (some p.2))→A9 S a vs os
structure wA(S:fU)(a:Addr)(vs:List Value)(os:List (Addr×Obj)):Prop where
 kinds:∀p∈os,pN p.2
 fn:A9 S a vs os
structure Ctx where
 w:World
 hB:Heap
 os:OsState
 tabs:List (Addr×Str)
noncomputable def Ctx.tab(X:Ctx)(a:Addr):Prop:=a∈X.tabs.map (·.1)
section
variable(X:Ctx)
mutual
inductive VR(X:Ctx)(ρ:aB)(h:Heap):Value→V→Prop
 | none:VR X ρ h .none .none
 | bool (b:Bool):VR X ρ h (.bool b) (.bool b)
 | int (i:Int) (t:Tok):VR X ρ h (.int i t) (.int i)
 | str (x:Str) (t:Tok):VR X ρ h (.str x t) (.str x)
 | tup {a:Addr} {vs:Array Value} {l:List V}:PT h a vs→a∉fp ρ→aC X ρ h vs.toList l→VR X ρ h (.ref a) (.tup l)
 | lst {a:Addr} {vs:Array Value} {l:List V}:PL h a vs→a∉fp ρ→aC X ρ h vs.toList l→VR X ρ h (.ref a) (.lst l)
 | loc {n:Nat} {p:Addr×Addr}:ρ.ah[n]?=some p→VR X ρ h (.ref p.1) (.loc n)
 | base (a:Addr):a<nB→VR X ρ h (.ref a) (.base a)
 | bi (id:String):VR X ρ h (.builtin id) (.bi id)
 | ty (n:String):VR X ρ h (.type n) (.ty n)
 | aE {a:Addr} {S:fU} {vs:List Value} {l:List V} {os:List (Addr×Obj)}:wA S a vs os→
  (∀p∈os,h.get? p.1=some p.2∧p.1∉fp ρ)→aC X ρ h vs l→VR X ρ h (.ref a) (.aE S l)
inductive aC(X:Ctx)(ρ:aB)(h:Heap):List Value→List V→Prop
 | nil:aC X ρ h [] []
 | cons {v:Value} {u:V} {vs:List Value} {us:List V}:VR X ρ h v u→aC X ρ h vs us→aC X ρ h (v::vs) (u::us)
end
variable{X}
noncomputable def VR.shape(X:Ctx)(ρ:aB)(h:Heap)(v:Value):V→Prop
 | .none=>v=.none
 | .bool b=>v=.bool b
 | .int i=>∃t,v=.int i t
 | .str x=>∃t,v=.str x t
 | .tup l=>∃a vs,v=.ref a∧PT h a vs∧a∉fp ρ∧aC X ρ h vs.toList l
 | .lst l=>∃a vs,v=.ref a∧PL h a vs∧a∉fp ρ∧aC X ρ h vs.toList l
 | .loc n=>∃p,v=.ref p.1∧ρ.ah[n]?=some p
 | .base a=>v=.ref a∧a<nB
 | .bi id=>v=.builtin id
 | .ty n=>v=.type n
 | .aE S l=>∃a vs os,v=.ref a∧wA S a vs os∧(∀p∈os,h.get? p.1=some p.2∧p.1∉fp ρ)∧aC X ρ h vs l
theorem VR.inv{ρ:aB}{u:V}(r:VR X ρ h v u):VR.shape X ρ h v u:=by
 cases r with
 | none=>exact rfl
 | bool=>exact rfl
 | int _ t=>exact⟨t,rfl⟩
 | str _ t=>exact⟨t,rfl⟩
 | tup a b c=>exact⟨_,_,rfl,a,b,c⟩
 | lst a b c=>exact⟨_,_,rfl,a,b,c⟩
 | loc a=>exact⟨_,rfl,a⟩
 | base _ a=>exact⟨rfl,a⟩
 | bi=>exact rfl
 | ty=>exact rfl
 | aE a b c=>exact⟨_,_,_,rfl,a,b,c⟩
theorem aC.inv{ρ:aB}{u:V}{us:List V}(r:aC X ρ h vs (u::us)):∃v ws,vs=v::ws∧VR X ρ h v u∧aC X ρ h ws us:=by
 cases r with|cons a b=>exact⟨_,_,rfl,a,b⟩
theorem aC.tH{ρ:aB}{vs:Array Value}{u:V}{us:List V}(r:aC X ρ h (vs.toList.drop i) (u::us)):∃x,vs[i]?=some x∧VR X ρ h x u∧aC X ρ h (vs.toList.drop (i+1)) us:=by
 refine bw r.inv ?_;intro x ys hd a b;have h1:vs.toList[i]?=some x:=by
  have:=congrArg (·[0]?) hd
  simpa using this
 refine⟨x,by simpa using h1,a,?_⟩
 rw [show vs.toList.drop (i+1)=ys by rw [←drop_drop,hd];rfl];exact b
theorem aC.nil_inv{ρ:aB}(r:aC X ρ h vs []):vs=[]:=by cases r;rfl
theorem aC.length{ρ:aB}{us:List V}(r:aC X ρ h vs us):vs.length=us.length:=by
 induction us generalizing vs with
 | nil=>rw [r.nil_inv];rfl
 | cons u us ih=>refine bw r.inv ?_;rintro v ws rfl _ r;exact congrArg (·+1) (ih r)
theorem aC.get{ρ:aB}{us:List V}(r:aC X ρ h vs us){u:V}(e:us[i]?=some u):∃v,vs[i]?=some v∧VR X ρ h v u:=by
 induction us generalizing vs i with
 | nil=>simp at e
 | cons u' us ih=>
  refine bw r.inv ?_;rintro v ws rfl r1 r2;cases i with
  | zero=>simp at e;subst e;exact⟨_,by simp,r1⟩
  | succ i=>simp at e;simpa using ih r2 e
theorem aC.append{ρ:aB}{ws:List Value}{us xs:List V}(r:aC X ρ h vs us)(q:aC X ρ h ws xs):aC X ρ h (vs++ws) (us++xs):=by
 induction us generalizing vs with
 | nil=>rw [r.nil_inv];exact q
 | cons u us ih=>refine bw r.inv ?_;rintro v ws rfl r1 r2;exact .cons r1 (ih r2)
theorem aC.drop{ρ:aB}{us:List V}(r:aC X ρ h vs us)(n:Nat):aC X ρ h (vs.drop n) (us.drop n):=by
 induction n generalizing vs us with
 | zero=>simpa using r
 | succ n ih=>cases r with
  | nil=>simpa using aC.nil
  | cons _ r=>simpa using ih r
theorem aC.take{ρ:aB}{us:List V}(r:aC X ρ h vs us)(n:Nat):aC X ρ h (vs.take n) (us.take n):=by
 induction n generalizing vs us with
 | zero=>simpa using aC.nil
 | succ n ih=>cases r with
  | nil=>simpa using aC.nil
  | cons a r=>simpa using aC.cons a (ih r)
theorem aC.of_get{ρ:aB}{us:List V}(hl:vs.length=us.length)(H:∀(i:Nat) (v:Value) (u:V),vs[i]?=some v→us[i]?=some u→VR X ρ h v u):aC X ρ h vs us:=by
 induction us generalizing vs with
 | nil=>cases vs with
  | nil=>exact .nil
  | cons v vs=>simp at hl
 | cons u us ih=>cases vs with
  | nil=>simp at hl
  | cons v vs=>exact .cons (H 0 v u rfl rfl) (ih (by simpa using hl) fun i v u e1 e2=>H (i+1) v u (by simpa using e1) (by simpa using e2))
structure bS(cl:Bool)(ρ ρ':aB)(h h':Heap):Prop where
 keep:∀a o,h.get? a=some o→a∉fp ρ→tB cl o→h'.get? a=some o
 pre:ρ.ah <+: ρ'.ah
 fresh:∀a∈fp ρ',a∉fp ρ→h.objs.size≤a
theorem bS.out{ρ ρ':aB}(M:bS cl ρ ρ' h h')(e:h.get? a=some o)(ha:a∉fp ρ):a∉fp ρ':=fun q=>
 absurd (M.fresh a q ha) (not_le.mpr (lt_size e))
theorem bS.list{ρ ρ':aB}(M:bS cl ρ ρ' h h'){vs:Array Value}(H:PL h a vs)(ha:a∉fp ρ):PL h' a vs∧a∉fp ρ':=by
 refine aA H ?_;clear H;intro n e;exact⟨⟨n,M.keep a _ e ha (.inl ⟨_,_,rfl⟩)⟩,M.out e ha⟩
theorem bS.tuple{ρ ρ':aB}(M:bS cl ρ ρ' h h'){vs:Array Value}(H:PT h a vs)(ha:a∉fp ρ):PT h' a vs∧a∉fp ρ':=by
 refine aA H ?_;clear H;intro n e;exact⟨⟨n,M.keep a _ e ha (.inl ⟨_,_,rfl⟩)⟩,M.out e ha⟩
theorem VR.ind{ρ:aB}{M:Value→V→Prop}{Ms:List Value→List V→Prop}(n:M .none .none)(b:∀b,M (.bool b) (.bool b))(i:∀i t,M (.int i t) (.int i))(s:∀x t,M (.str x t) (.str x))
 (tup:∀{a:Addr} {vs:Array Value} {l:List V},PT h a vs→a∉fp ρ→aC X ρ h vs.toList l→Ms vs.toList l→M (.ref a) (.tup l))
 (lst:∀{a:Addr} {vs:Array Value} {l:List V},PL h a vs→a∉fp ρ→aC X ρ h vs.toList l→Ms vs.toList l→M (.ref a) (.lst l))
 (loc:∀{n:Nat} {p:Addr×Addr},ρ.ah[n]?=some p→M (.ref p.1) (.loc n)) (base:∀a,a<nB→M (.ref a) (.base a)) (bi:∀id,M (.builtin id) (.bi id)) (ty:∀n,M (.type n) (.ty n))
 (aE:∀{a:Addr} {S:fU} {vs:List Value} {l:List V} {os:List (Addr×Obj)},wA S a vs os→(∀p∈os,h.get? p.1=some p.2∧p.1∉fp ρ)→aC X ρ h vs l→Ms vs l→M (.ref a) (.aE S l))
 (nil:Ms [] []) (cons:∀{v:Value} {u:V} {vs:List Value} {us:List V},VR X ρ h v u→aC X ρ h vs us→M v u→Ms vs us→Ms (v::vs) (u::us)) :
 (∀{v:Value} {u:V},VR X ρ h v u→M v u)∧(∀{vs:List Value} {us:List V},aC X ρ h vs us→Ms vs us):=
 ⟨VR.rec (motive_1:=fun v u Z=>M v u) (motive_2:=fun vs us Z=>Ms vs us) n b i s tup lst loc base bi ty aE nil cons,
  aC.rec (motive_1:=fun v u Z=>M v u) (motive_2:=fun vs us Z=>Ms vs us) n b i s tup lst loc base bi ty aE nil cons⟩
theorem VR.FP{ρ ρ':aB}(M:bS cl ρ ρ' h h'):(∀{v:Value} {u:V},VR X ρ h v u→(cl=true∨u.plain=true)→VR X ρ' h' v u)∧
 (∀{vs:List Value} {us:List V},aC X ρ h vs us→(cl=true∨V.bD us=true)→aC X ρ' h' vs us):=by
 refine VR.ind (M:=fun v u=>(cl=true∨u.plain=true)→VR X ρ' h' v u) (Ms:=fun vs us=>(cl=true∨V.bD us=true)→aC X ρ' h' vs us)
  (fun Z=>.none) (fun b Z=>.bool b) (fun i t Z=>.int i t) (fun i t Z=>.str i t) (fun a b Z ih hp=>.tup (M.tuple a b).1 (M.tuple a b).2 (ih hp)) (fun a b Z ih hp=>.lst (M.list a b).1 (M.list a b).2 (ih hp))
  (fun e Z=>.loc ?_) (fun a l Z=>.base a l) (fun i Z=>.bi i) (fun n Z=>.ty n) (fun c H Z ih hp=>?_) (fun Z=>.nil) (fun Z Z ia ir hp=>.cons (ia (hp.imp id fun x=>(and_eq_true_iff.mp x).1)) (ir (hp.imp id fun x=>(and_eq_true_iff.mp x).2)))
 ·refine aA M.pre ?_;intro t ht;rw [←ht,getElem?_append_left (List.getElem?_eq_some_iff.mp e).1];exact e
 ·have hc:cl=true:=hp.elim id ff;exact .aE c (fun p hp=>⟨M.keep _ _ (H p hp).1 (H p hp).2 (.inr ⟨hc,c.kinds p hp⟩),M.out (H p hp).1 (H p hp).2⟩) (ih (.inl hc))
theorem VR.mono{ρ ρ':aB}(M:bS cl ρ ρ' h h'){u:V}(hp:cl=true∨u.plain=true)(r:VR X ρ h v u):VR X ρ' h' v u:=(VR.FP M).1 r hp
theorem aC.mono{ρ ρ':aB}(M:bS cl ρ ρ' h h'){us:List V}(hp:cl=true∨V.bD us=true)(r:aC X ρ h vs us):aC X ρ' h' vs us:=(VR.FP M).2 r hp
theorem bS.weak{ρ ρ':aB}(M:bS true ρ ρ' h h'):bS cl ρ ρ' h h':=
 ⟨fun a o e ha hv=>M.keep a o e ha (hv.imp id fun x=>⟨rfl,x.2⟩),M.pre,M.fresh⟩
noncomputable abbrev aN:Addr:=101
inductive AccAt(h:Heap)(a d:Addr)(init:Int)(vs:Array Value):Prop
 | mk (n:Nat) (t:Tok) (hh:Int) (kt:Tok):h.get? a=some ⟨.ref aN,some d,.seq vs n,#[]⟩→
  h.get? d=some { cls:=.type "dict",data:=.dict #[⟨hh,.str "_initial_size" kt,.int init t⟩] 1 }→AccAt h a d init vs
variable(X)
inductive dX(ρ:aB)(h:Heap):Addr×Addr→bY→Prop
 | list {a:Addr} {vs:Array Value} {l:List V}:PL h a vs→aC X ρ h vs.toList l→V.bD l=true→dX ρ h (a,a) (.list l)
 | iter {a b:Addr} {i:Nat} {vs:Array Value} {l:List V}:h.IsListIter a b i→PL h b vs→b∉fp ρ→aC X ρ h (vs.toList.drop i) l→V.bD l=true→dX ρ h (a,a) (.iter l)
 | acc {a d:Addr} {init:Int} {vs:Array Value} {l:List V}:AccAt h a d init vs→aC X ρ h vs.toList l→V.bD l=true→dX ρ h (a,d) (.acc init l)
noncomputable def apart(p q:Addr×Addr):Prop:=p.1≠q.1∧p.1≠q.2∧p.2≠q.1∧p.2≠q.2
structure Rel(ρ:aB)(σ:aa)(h:Heap):Prop where
 len:ρ.ah.length=σ.length
 obj:∀(i:Nat) (p:Addr×Addr) (m:bY),ρ.ah[i]?=some p→σ[i]?=some m→dX X ρ h p m
 apart:ρ.ah.Pairwise apart
 cR:∀a∈lp ρ.ah,a∉ρ.priv
 lt:∀a∈fp ρ,a<h.objs.size
 ge:∀a∈fp ρ,nB≤a
variable{X}
noncomputable def dX.shape(X:Ctx)(ρ:aB)(h:Heap)(p:Addr×Addr):bY→Prop
 | .list l=>∃a vs,p=(a,a)∧PL h a vs∧aC X ρ h vs.toList l∧V.bD l=true
 | .iter l=>∃a b i vs,p=(a,a)∧h.IsListIter a b i∧PL h b vs∧b∉fp ρ∧aC X ρ h (vs.toList.drop i) l∧V.bD l=true
 | .acc init l=>∃a d vs,p=(a,d)∧AccAt h a d init vs∧aC X ρ h vs.toList l∧V.bD l=true
theorem dX.inv{ρ:aB}{m:bY}(r:dX X ρ h p m):dX.shape X ρ h p m:=by
 cases r with
 | list a b c=>exact⟨_,_,rfl,a,b,c⟩
 | iter a b c d e=>exact⟨_,_,_,_,rfl,a,b,c,d,e⟩
 | acc a b c=>exact⟨_,_,_,rfl,a,b,c⟩
theorem dX.mono{ρ ρ':aB}{m:bY}(M:bS false ρ ρ' h h')(hp:∀a,a=p.1∨a=p.2→h'.get? a=h.get? a)(r:dX X ρ h p m):dX X ρ' h' p m:=by
 cases r with
 | list a b c=>refine aA a ?_;clear a;intro n e;exact .list ⟨n,(hp _ (.inl rfl)).trans e⟩ (b.mono M (.inr c)) c
 | iter a b c d e=>refine aj a ?_;clear a;intro o e' q;exact .iter ⟨o,(hp _ (.inl rfl)).trans e',q⟩ (M.list b c).1 (M.list b c).2 (d.mono M (.inr e)) e
 | acc a b c=>obtain⟨n,t,hh,kt,e1,e2⟩:=a;exact .acc ⟨n,t,hh,kt,(hp _ (.inl rfl)).trans e1,(hp _ (.inr rfl)).trans e2⟩ (b.mono M (.inr c)) c
theorem Rel.mono{ρ:aB}{σ:aa}(R:Rel X ρ σ h)(M:bS false ρ ρ h h')(hown:∀a∈lp ρ.ah,h'.get? a=h.get? a)(hs:h.objs.size≤h'.objs.size):Rel X ρ σ h' where
 len:=R.len
 obj:=fun i p m e1 e2=>(R.obj i p m e1 e2).mono M fun a ha=>hown a (dj.mpr ⟨p,mem_of_getElem? e1,ha⟩)
 apart:=R.apart
 cR:=R.cR
 lt:=fun a ha=>lt_of_lt_of_le (R.lt a ha) hs
 ge:=R.ge
theorem Rel.get{ρ:aB}{σ:aa}(R:Rel X ρ σ h){n:Nat}(e:ρ.ah[n]?=some p):∃m,σ[n]?=some m∧dX X ρ h p m:=by
 have hl:n<σ.length:=by rw [←R.len];exact (List.getElem?_eq_some_iff.mp e).1
 exact⟨σ[n],getElem?_eq_getElem hl,R.obj n p _ e (getElem?_eq_getElem hl)⟩
structure TabOk(h:Heap)(T:Addr)(q:Str):Prop where
 ok:∃ps,h.get? T=some (tabObj ps)∧TriplesOk ps.toList∧∀pos cv,codeAmong pos ps.toList=some cv→
  ∃c co ws t,cv=.ref c∧h.get? c=some co∧co.data=.fields ws∧ws[1]?=some (.str q t)∧nB≤c
theorem Hw{ps:Array Value}(h:TriplesOk ps.toList):¬kF (tabObj ps):=by
 intro hh;refine bG hh ?_;clear hh;intro vs q t e h1;have:ps=vs:=by cases e;rfl
 subst this;have h2:ps.toList[1]?=some (.str q t):=by simpa using h1
 revert h h2;cases ps.toList with
 | nil=>intro _ h;exact nn h
 | cons a l=>cases l with
  | nil=>intro _ h;exact nn h
  | cons b l=>intro h h2;obtain rfl:=Option.some.inj h2;cases a<;>exact h
structure aq(X:Ctx)(s:Shared):Prop where
 keep:∀a o,X.hB.get? a=some o→¬X.tab a→s.heap.get? a=some o
 tab:∀T q,(T,q)∈X.tabs→TabOk s.heap T q
 os:s.os=X.os
 gens:AllBare s.gens
 size:nB≤s.heap.objs.size
 lim:s.heap.NoLimit
theorem jt(h:nB≤a):a≠cStatics:=fun z=>by rw [z] at h;exact absurd h (by decide)
structure Step(X:Ctx)(ρ ρ':aB)(h h':Heap):Prop where
 keep:∀a o,h.get? a=some o→¬X.tab a→a∉lp ρ.ah→h'.get? a=some o
 pre:ρ.ah <+: ρ'.ah
 cI:∀a∈lp ρ'.ah,a∉lp ρ.ah→h.objs.size≤a
 fresh:∀a∈fp ρ',a∉fp ρ→h.objs.size≤a
 size:h.objs.size≤h'.objs.size
theorem Step.refl(ρ:aB)(h:Heap):Step X ρ ρ h h:=⟨fun Z Z e Z Z=>e,prefix_refl _,fun Z q n=>absurd q n,fun Z q n=>absurd q n,le_refl _⟩
theorem Step.trans{ρ₁ ρ₂ ρ₃:aB}{h₁ h₂ h₃:Heap}(a:Step X ρ₁ ρ₂ h₁ h₂)(b:Step X ρ₂ ρ₃ h₂ h₃):Step X ρ₁ ρ₃ h₁ h₃ where
 keep:=fun x o e ht hx=>b.keep x o (a.keep x o e ht hx) ht fun q=>absurd (a.cI x q hx) (not_le.mpr (lt_size e))
 pre:=a.pre.trans b.pre
 cI:=fun x q hx=>by
  by_cases q2:x∈lp ρ₂.ah
  ·exact a.cI x q2 hx
  ·exact le_trans a.size (b.cI x q q2)
 fresh:=fun x q hx=>by
  by_cases q2:x∈fp ρ₂
  ·exact a.fresh x q2 hx
  ·exact le_trans a.size (b.fresh x q q2)
 size:=le_trans a.size b.size
theorem aq.kK(A:aq X s)(e:s.heap.get? a=some o)(hv:tB true o):¬X.tab a:=by
 intro ht;refine aj (mem_map.mp ht) ?_;intro hh;obtain⟨T,q⟩:=hh;rintro hm rfl;refine bQ ((A.tab T q hm).ok) ?_;intro ps hp htr _;have:o=tabObj ps:=Option.some.inj (e.symm.trans hp);subst this;rcases hv with⟨xs,n,h⟩|⟨_,⟨fd,h⟩|⟨v,h⟩|h⟩
 ·cases h
 ·cases h
 ·cases h
 ·exact Hw htr h
theorem Step.mono{ρ ρ':aB}(A:aq X s)(S:Step X ρ ρ' s.heap h'):bS cl ρ ρ' s.heap h':=
 bS.weak ⟨fun a o e ha hv=>S.keep a o e (A.kK e hv) fun q=>ha (aI.mpr (.inl q)),S.pre,S.fresh⟩
theorem VR.step{ρ ρ':aB}(A:aq X s)(S:Step X ρ ρ' s.heap h'){u:V}(r:VR X ρ s.heap v u):VR X ρ' h' v u:=r.mono (S.mono (cl:=true) A) (.inl rfl)
theorem aC.step{ρ ρ':aB}(A:aq X s)(S:Step X ρ ρ' s.heap h'){v:List Value}{u:List V}(r:aC X ρ s.heap v u):aC X ρ' h' v u:=r.mono (S.mono (cl:=true) A) (.inl rfl)
end
end
section
variable{α:Type}{e:Expr}
theorem vE{p G:Prop}[Decidable p]{d y:α}{f:p→α}(n:d≠y)(h:(if h:p then f h else d)=y)(k:∀h,f h=y→G):G:=by
 by_cases hp:p
 ·rw [dif_pos hp] at h;exact k hp h
 ·rw [dif_neg hp] at h;exact absurd h n
theorem bF:false≠true:=nofun
theorem nS{x:α}:none≠some x:=nofun
noncomputable def mj(d:α)(f:Expr→Operator→Expr→Pos→α)(e:Expr):α:=if h:e.ctorIdx=2 then Expr.BinOp.elim (motive_1:=fun Z=>α) e h f else d
theorem Er{d y:α}{f:Expr→Operator→Expr→Pos→α}(n:d≠y)(h:mj d f e=y):∃a b c d,e=.BinOp a b c d∧f a b c d=y:=vE n h fun k=>Expr.BinOp.elim (motive_1:=fun e=>∀k:e.ctorIdx=2,Expr.BinOp.elim (motive_1:=fun Z=>α) e k f=y→∃a b c d,e=.BinOp a b c d∧f a b c d=y) e k (fun a b c d Z h=>⟨a,b,c,d,rfl,h⟩) k
noncomputable def AW(d:α)(f:UnaryOp→Expr→Pos→α)(e:Expr):α:=if h:e.ctorIdx=3 then Expr.UnaryOp.elim (motive_1:=fun Z=>α) e h f else d
theorem Ew{d y:α}{f:UnaryOp→Expr→Pos→α}(n:d≠y)(h:AW d f e=y):∃a b c,e=.UnaryOp a b c∧f a b c=y:=vE n h fun k=>Expr.UnaryOp.elim (motive_1:=fun e=>∀k:e.ctorIdx=3,Expr.UnaryOp.elim (motive_1:=fun Z=>α) e k f=y→∃a b c,e=.UnaryOp a b c∧f a b c=y) e k (fun a b c Z h=>⟨a,b,c,rfl,h⟩) k
noncomputable def AS(d:α)(f:Arguments→Expr→Scope→Pos→α)(e:Expr):α:=if h:e.ctorIdx=4 then Expr.Lambda.elim (motive_1:=fun Z=>α) e h f else d
theorem Pb{d y:α}{f:Arguments→Expr→Scope→Pos→α}(n:d≠y)(h:AS d f e=y):∃a b c d,e=.Lambda a b c d∧f a b c d=y:=vE n h fun k=>Expr.Lambda.elim (motive_1:=fun e=>∀k:e.ctorIdx=4,Expr.Lambda.elim (motive_1:=fun Z=>α) e k f=y→∃a b c d,e=.Lambda a b c d∧f a b c d=y) e k (fun a b c d Z h=>⟨a,b,c,d,rfl,h⟩) k
noncomputable def wc(d:α)(f:BoolOp→List Expr→Pos→α)(e:Expr):α:=if h:e.ctorIdx=0 then Expr.BoolOp.elim (motive_1:=fun Z=>α) e h f else d
theorem zf{d y:α}{f:BoolOp→List Expr→Pos→α}(n:d≠y)(h:wc d f e=y):∃a b c,e=.BoolOp a b c∧f a b c=y:=vE n h fun k=>Expr.BoolOp.elim (motive_1:=fun e=>∀k:e.ctorIdx=0,Expr.BoolOp.elim (motive_1:=fun Z=>α) e k f=y→∃a b c,e=.BoolOp a b c∧f a b c=y) e k (fun a b c Z h=>⟨a,b,c,rfl,h⟩) k
noncomputable def AR(d:α)(f:Expr→Expr→Expr→Pos→α)(e:Expr):α:=if h:e.ctorIdx=5 then Expr.IfExp.elim (motive_1:=fun Z=>α) e h f else d
theorem Pa{d y:α}{f:Expr→Expr→Expr→Pos→α}(n:d≠y)(h:AR d f e=y):∃a b c d,e=.IfExp a b c d∧f a b c d=y:=vE n h fun k=>Expr.IfExp.elim (motive_1:=fun e=>∀k:e.ctorIdx=5,Expr.IfExp.elim (motive_1:=fun Z=>α) e k f=y→∃a b c d,e=.IfExp a b c d∧f a b c d=y) e k (fun a b c d Z h=>⟨a,b,c,d,rfl,h⟩) k
noncomputable def we(d:α)(f:Expr→List CmpOp→List Expr→Pos→α)(e:Expr):α:=if h:e.ctorIdx=15 then Expr.Compare.elim (motive_1:=fun Z=>α) e h f else d
theorem O6{d y:α}{f:Expr→List CmpOp→List Expr→Pos→α}(n:d≠y)(h:we d f e=y):∃a b c d,e=.Compare a b c d∧f a b c d=y:=vE n h fun k=>Expr.Compare.elim (motive_1:=fun e=>∀k:e.ctorIdx=15,Expr.Compare.elim (motive_1:=fun Z=>α) e k f=y→∃a b c d,e=.Compare a b c d∧f a b c d=y) e k (fun a b c d Z h=>⟨a,b,c,d,rfl,h⟩) k
noncomputable def oB(d:α)(f:Expr→List Comprehension→Scope→Pos→α)(e:Expr):α:=if h:e.ctorIdx=8 then Expr.ListComp.elim (motive_1:=fun Z=>α) e h f else d
theorem Et{d y:α}{f:Expr→List Comprehension→Scope→Pos→α}(n:d≠y)(h:oB d f e=y):∃a b c d,e=.ListComp a b c d∧f a b c d=y:=vE n h fun k=>Expr.ListComp.elim (motive_1:=fun e=>∀k:e.ctorIdx=8,Expr.ListComp.elim (motive_1:=fun Z=>α) e k f=y→∃a b c d,e=.ListComp a b c d∧f a b c d=y) e k (fun a b c d Z h=>⟨a,b,c,d,rfl,h⟩) k
noncomputable def gu(d:α)(f:Expr→List Expr→List Keyword→Pos→α)(e:Expr):α:=if h:e.ctorIdx=16 then Expr.Call.elim (motive_1:=fun Z=>α) e h f else d
theorem pK{d y:α}{f:Expr→List Expr→List Keyword→Pos→α}(n:d≠y)(h:gu d f e=y):∃a b c d,e=.Call a b c d∧f a b c d=y:=vE n h fun k=>Expr.Call.elim (motive_1:=fun e=>∀k:e.ctorIdx=16,Expr.Call.elim (motive_1:=fun Z=>α) e k f=y→∃a b c d,e=.Call a b c d∧f a b c d=y) e k (fun a b c d Z h=>⟨a,b,c,d,rfl,h⟩) k
noncomputable def sV(d:α)(f:Expr→Str→Pos→α)(e:Expr):α:=if h:e.ctorIdx=20 then Expr.Attribute.elim (motive_1:=fun Z=>α) e h f else d
theorem Eo{d y:α}{f:Expr→Str→Pos→α}(n:d≠y)(h:sV d f e=y):∃a b c,e=.Attribute a b c∧f a b c=y:=vE n h fun k=>Expr.Attribute.elim (motive_1:=fun e=>∀k:e.ctorIdx=20,Expr.Attribute.elim (motive_1:=fun Z=>α) e k f=y→∃a b c,e=.Attribute a b c∧f a b c=y) e k (fun a b c Z h=>⟨a,b,c,rfl,h⟩) k
noncomputable def jB(d:α)(f:Expr→Expr→Pos→α)(e:Expr):α:=if h:e.ctorIdx=21 then Expr.Subscript.elim (motive_1:=fun Z=>α) e h f else d
theorem nG{d y:α}{f:Expr→Expr→Pos→α}(n:d≠y)(h:jB d f e=y):∃a b c,e=.Subscript a b c∧f a b c=y:=vE n h fun k=>Expr.Subscript.elim (motive_1:=fun e=>∀k:e.ctorIdx=21,Expr.Subscript.elim (motive_1:=fun Z=>α) e k f=y→∃a b c,e=.Subscript a b c∧f a b c=y) e k (fun a b c Z h=>⟨a,b,c,rfl,h⟩) k
noncomputable def eS(d:α)(f:Str→Pos→α)(e:Expr):α:=if h:e.ctorIdx=23 then Expr.Name.elim (motive_1:=fun Z=>α) e h f else d
theorem jh{d y:α}{f:Str→Pos→α}(n:d≠y)(h:eS d f e=y):∃a b,e=.Name a b∧f a b=y:=vE n h fun k=>Expr.Name.elim (motive_1:=fun e=>∀k:e.ctorIdx=23,Expr.Name.elim (motive_1:=fun Z=>α) e k f=y→∃a b,e=.Name a b∧f a b=y) e k (fun a b Z h=>⟨a,b,rfl,h⟩) k
noncomputable def AU(d:α)(f:List Expr→Pos→α)(e:Expr):α:=if h:e.ctorIdx=24 then Expr.List.elim (motive_1:=fun Z=>α) e h f else d
theorem Pc{d y:α}{f:List Expr→Pos→α}(n:d≠y)(h:AU d f e=y):∃a b,e=.List a b∧f a b=y:=vE n h fun k=>Expr.List.elim (motive_1:=fun e=>∀k:e.ctorIdx=24,Expr.List.elim (motive_1:=fun Z=>α) e k f=y→∃a b,e=.List a b∧f a b=y) e k (fun a b Z h=>⟨a,b,rfl,h⟩) k
noncomputable def mq(d:α)(f:List Expr→Nat→Pos→α)(e:Expr):α:=if h:e.ctorIdx=25 then Expr.Tuple.elim (motive_1:=fun Z=>α) e h f else d
theorem rN{d y:α}{f:List Expr→Nat→Pos→α}(n:d≠y)(h:mq d f e=y):∃a b c,e=.Tuple a b c∧f a b c=y:=vE n h fun k=>Expr.Tuple.elim (motive_1:=fun e=>∀k:e.ctorIdx=25,Expr.Tuple.elim (motive_1:=fun Z=>α) e k f=y→∃a b c,e=.Tuple a b c∧f a b c=y) e k (fun a b c Z h=>⟨a,b,c,rfl,h⟩) k
noncomputable def wg(d:α)(f:Option Expr→Option Expr→Option Expr→Pos→α)(e:Expr):α:=if h:e.ctorIdx=26 then Expr.Slice.elim (motive_1:=fun Z=>α) e h f else d
theorem Eu{d y:α}{f:Option Expr→Option Expr→Option Expr→Pos→α}(n:d≠y)(h:wg d f e=y):∃a b c d,e=.Slice a b c d∧f a b c d=y:=vE n h fun k=>Expr.Slice.elim (motive_1:=fun e=>∀k:e.ctorIdx=26,Expr.Slice.elim (motive_1:=fun Z=>α) e k f=y→∃a b c d,e=.Slice a b c d∧f a b c d=y) e k (fun a b c d Z h=>⟨a,b,c,d,rfl,h⟩) k
noncomputable def AV(d:α)(f:Option Expr→Pos→α)(e:Stmt):α:=if h:e.ctorIdx=3 then Stmt.Return.elim (motive_2:=fun Z=>α) e h f else d
theorem Pd{d y:α}{f:Option Expr→Pos→α}{e:Stmt}(n:d≠y)(h:AV d f e=y):∃a b,e=.Return a b∧f a b=y:=vE n h fun k=>Stmt.Return.elim (motive_2:=fun e=>∀k:e.ctorIdx=3,Stmt.Return.elim (motive_2:=fun Z=>α) e k f=y→∃a b,e=.Return a b∧f a b=y) e k (fun a b Z h=>⟨a,b,rfl,h⟩) k
noncomputable def qC(d:α)(f:List Expr→Expr→Pos→α)(e:Stmt):α:=if h:e.ctorIdx=5 then Stmt.Assign.elim (motive_2:=fun Z=>α) e h f else d
theorem uO{d y:α}{f:List Expr→Expr→Pos→α}{e:Stmt}(n:d≠y)(h:qC d f e=y):∃a b c,e=.Assign a b c∧f a b c=y:=vE n h fun k=>Stmt.Assign.elim (motive_2:=fun e=>∀k:e.ctorIdx=5,Stmt.Assign.elim (motive_2:=fun Z=>α) e k f=y→∃a b c,e=.Assign a b c∧f a b c=y) e k (fun a b c Z h=>⟨a,b,c,rfl,h⟩) k
noncomputable def oA(d:α)(f:Expr→Operator→Expr→Pos→α)(e:Stmt):α:=if h:e.ctorIdx=7 then Stmt.AugAssign.elim (motive_2:=fun Z=>α) e h f else d
theorem Ep{d y:α}{f:Expr→Operator→Expr→Pos→α}{e:Stmt}(n:d≠y)(h:oA d f e=y):∃a b c d,e=.AugAssign a b c d∧f a b c d=y:=vE n h fun k=>Stmt.AugAssign.elim (motive_2:=fun e=>∀k:e.ctorIdx=7,Stmt.AugAssign.elim (motive_2:=fun Z=>α) e k f=y→∃a b c d,e=.AugAssign a b c d∧f a b c d=y) e k (fun a b c d Z h=>⟨a,b,c,d,rfl,h⟩) k
noncomputable def qD(d:α)(f:Expr→Expr→List Stmt→List Stmt→Pos→α)(e:Stmt):α:=if h:e.ctorIdx=9 then Stmt.For.elim (motive_2:=fun Z=>α) e h f else d
theorem O8{d y:α}{f:Expr→Expr→List Stmt→List Stmt→Pos→α}{e:Stmt}(n:d≠y)(h:qD d f e=y):∃a b c d g,e=.For a b c d g∧f a b c d g=y:=vE n h fun k=>Stmt.For.elim (motive_2:=fun e=>∀k:e.ctorIdx=9,Stmt.For.elim (motive_2:=fun Z=>α) e k f=y→∃a b c d g,e=.For a b c d g∧f a b c d g=y) e k (fun a b c d g Z h=>⟨a,b,c,d,g,rfl,h⟩) k
noncomputable def sX(d:α)(f:Expr→List Stmt→List Stmt→Pos→α)(e:Stmt):α:=if h:e.ctorIdx=11 then Stmt.While.elim (motive_2:=fun Z=>α) e h f else d
theorem Pe{d y:α}{f:Expr→List Stmt→List Stmt→Pos→α}{e:Stmt}(n:d≠y)(h:sX d f e=y):∃a b c d,e=.While a b c d∧f a b c d=y:=vE n h fun k=>Stmt.While.elim (motive_2:=fun e=>∀k:e.ctorIdx=11,Stmt.While.elim (motive_2:=fun Z=>α) e k f=y→∃a b c d,e=.While a b c d∧f a b c d=y) e k (fun a b c d Z h=>⟨a,b,c,d,rfl,h⟩) k
noncomputable def sW(d:α)(f:Expr→List Stmt→List Stmt→Pos→α)(e:Stmt):α:=if h:e.ctorIdx=12 then Stmt.If.elim (motive_2:=fun Z=>α) e h f else d
theorem O9{d y:α}{f:Expr→List Stmt→List Stmt→Pos→α}{e:Stmt}(n:d≠y)(h:sW d f e=y):∃a b c d,e=.If a b c d∧f a b c d=y:=vE n h fun k=>Stmt.If.elim (motive_2:=fun e=>∀k:e.ctorIdx=12,Stmt.If.elim (motive_2:=fun Z=>α) e k f=y→∃a b c d,e=.If a b c d∧f a b c d=y) e k (fun a b c d Z h=>⟨a,b,c,d,rfl,h⟩) k
noncomputable def AQ(d:α)(f:Expr→Pos→α)(e:Stmt):α:=if h:e.ctorIdx=24 then Stmt.Expr.elim (motive_2:=fun Z=>α) e h f else d
theorem O7{d y:α}{f:Expr→Pos→α}{e:Stmt}(n:d≠y)(h:AQ d f e=y):∃a b,e=.Expr a b∧f a b=y:=vE n h fun k=>Stmt.Expr.elim (motive_2:=fun e=>∀k:e.ctorIdx=24,Stmt.Expr.elim (motive_2:=fun Z=>α) e k f=y→∃a b,e=.Expr a b∧f a b=y) e k (fun a b Z h=>⟨a,b,rfl,h⟩) k
theorem ER{d y:α}{f:Str→Pos→α}(h:eS d f e=y):(∃a b,e=.Name a b∧f a b=y)∨d=y:=(em (d=y)).elim .inr fun n=>.inl (jh n h)
theorem Qs{d y:α}{f:List Expr→Nat→Pos→α}(h:mq d f e=y):(∃a b c,e=.Tuple a b c∧f a b c=y)∨d=y:=(em (d=y)).elim .inr fun n=>.inl (rN n h)
end
section
variable{σ:aa}{n m:Nat}{i:Int}{α β:Type}{e:Expr}{p:Pos}
structure ao where
 names:List (Str×NameKind)
 vals:List (Str×V)
 code:Value
 qual:Str
noncomputable def kX(x:Str)(u:V):List (Str×V)→List (Str×V)
 | []=>[(x,u)]
 | (y,w)::r=>if y=x then (x,u)::r else (y,w)::kX x u r
theorem V8{x y:Str}{u:V}:∀l:List (Str×V),(kX x u l).lookup y=if y=x then some u else l.lookup y:=by
 intro l
 induction l with
 | nil=>exact lV _ _ _ _
 | cons hd0 r rc=>
  obtain⟨z,w⟩:=hd0;show (if z=x then (x,u)::r else (z,w)::kX x u r).lookup y=_
  by_cases hz:z=x
  ·rw [if_pos hz,lV,lV,hz]
   by_cases h:y=x
   ·rw [if_pos h,if_pos h]
   ·rw [if_neg h,if_neg h,if_neg h]
  ·rw [if_neg hz,lV,lV,rc]
   by_cases h:y=z
   ·rw [if_pos h,if_neg (h▸hz),if_pos h]
   ·rw [if_neg h,if_neg h]
noncomputable def ao.vars(me:ao)(x:Str):Option V:=me.vals.lookup x
noncomputable def ao.set(me:ao)(x:Str)(u:V):ao:={ me with vals:=kX x u me.vals }
structure Calls where
 call:V→List V→Option V→aa→Option (V×aa)
 glob:Str→Option V
 res:V→Str→aa→Option V
 lam:ao→Expr→Option V
noncomputable def Li:Const→Option V
 | .none=>some .none
 | .bool b=>some (.bool b)
 | .int i=>some (.int i)
 | .str x=>some (.str x)
 | _=>none
noncomputable def jk:Option NameKind→Bool
 | some .local|some .cell|some .free=>true
 | _=>false
noncomputable def cy(C:Calls)(me:ao)(x:Str):Option V:=
 if x==("__debug__":Str)||x==("__classdict__":Str) then none else
 if jk (me.names.lookup x) then me.vars x else
 if me.names.lookup x=some .globalImplicit then C.glob x else none
noncomputable def bY.QX:bY→Option (List V)
 | .list l=>some l
 | _=>none
noncomputable def listAt(σ:aa)(n:Nat):Option (List V):=(σ[n]?).bind bY.QX
theorem rY{l:List V}(h:listAt σ n=some l):σ[n]?=some (.list l):=by
 refine aH h ?_;intro m e h;cases m with
 | list=>obtain rfl:=Option.some.inj h;exact e
 | _=>exact nn h
noncomputable def listOf(σ:aa):V→Option (List V)
 | .lst l=>some l
 | .loc n=>listAt σ n
 | _=>none
noncomputable def gr(_σ:aa):V→Option Bool
 | .bool b=>some b
 | .int i=>some (decide (i≠0))
 | .lst l=>if l.length<2^20 then some (!l.isEmpty) else none
 | _=>none
noncomputable def V.int?:V→Option Int
 | .int i=>some i
 | _=>Option.none
noncomputable def V.gH:V→Option Str
 | .str x=>some x
 | _=>Option.none
noncomputable def V.se:V→Option (List V)
 | .lst l=>some l
 | _=>Option.none
noncomputable def V.v9:V→Option (List V)
 | .tup l=>some l
 | _=>Option.none
theorem eu{u:V}(h:u.int?=some i):u=.int i:=by cases u with
 | int j=>exact congrArg V.int (Option.some.inj h)
 | _=>exact nn h
theorem iU{u:V}{i:Str}(h:u.gH=some i):u=.str i:=by cases u with
 | str j=>exact congrArg V.str (Option.some.inj h)
 | _=>exact nn h
theorem u9{u:V}{i:List V}(h:u.se=some i):u=.lst i:=by cases u with
 | lst j=>exact congrArg V.lst (Option.some.inj h)
 | _=>exact nn h
theorem AM{u:V}{i:List V}(h:u.v9=some i):u=.tup i:=by cases u with
 | tup j=>exact congrArg V.tup (Option.some.inj h)
 | _=>exact nn h
noncomputable def kE:Operator→Int→Int→Option Int
 | .Add,a,b=>some (a+b)
 | .Sub,a,b=>some (a - b)
 | .Mult,a,b=>if (-(2^63)<b∧b<2^63) then some (a*b) else none
 | .FloorDiv,a,b=>if b≠0∧b.natAbs<1073741824 then some (fdiv a b) else none
 | .Mod,a,b=>if b≠0 then some (fmod a b) else none
 | .Pow,a,b=>if 0≤b∧b≤64∧a.natAbs<2^64 then some (a^b.toNat) else none
 | .LShift,a,b=>if 0≤b∧b≤64∧a.natAbs<2^64 then some (a*2^b.toNat) else none
 | .RShift,a,b=>if 0≤b then some (fdiv a (2^b.toNat)) else none
 | .BitAnd,a,b=>some (Builtin.bitAnd a b)
 | .BitOr,a,b=>some (Builtin.bitOr a b)
 | .BitXor,a,b=>some (Builtin.bitXor a b)
 | .MatMult,_,_=>none
 | .Div,_,_=>none
noncomputable def Bp(σ:aa)(u x:V):Option V:=(u.gH.bind fun a=>x.gH.bind fun b=>if a.length+b.length≤sizeLine then some (V.str (a++b)) else none).or
 ((listOf σ u).bind fun a=>(listOf σ x).bind fun b=>if a.length+b.length≤sizeLine then some (V.lst (a++b)) else none)
noncomputable def mulM(u:V)(n:Int):Option V:=(u.gH.bind fun a=>if 0≤n∧n≤8∧a.length≤8 then some (V.str (Txt.mul a n)) else none).or
 (u.se.bind fun x=>if 0≤n∧n≤8∧x.length≤8 then some (V.lst (replicate n.toNat x).flatten) else none)
noncomputable def GU(σ:aa)(op:Operator)(u x:V):Option V:=if op=.Add then Bp σ u x else if op=.Mult then x.int?.bind (mulM u) else none
noncomputable def iC(σ:aa)(op:Operator)(u x:V):Option V:=(u.int?.bind fun a=>x.int?.bind fun b=>(kE op a b).map V.int).or (GU σ op u x)
mutual
noncomputable def V.toPy:V→Option PyData
 | V.none=>some PyData.none
 | .bool b=>some (.bool b)
 | .int i=>some (.int i)
 | .str x=>some (.str x)
 | .tup l=>(V.jY l).map .tuple
 | .lst l=>(V.jY l).map .list
 | _=>Option.none
noncomputable def V.jY:List V→Option (List PyData)
 | []=>some []
 | v::r=>(v.toPy).bind fun d=>(V.jY r).map fun ds=>d::ds
end
noncomputable def flat(σ:aa)(v:V):V:=match listOf σ v with
 | some l=>.lst l
 | none=>v
noncomputable def mX(a b:V):Option Bool:=(a.toPy).bind fun x=>(b.toPy).bind fun y=>if SeqAt.shaped x&&SeqAt.shaped y then some (eqv x y) else none
noncomputable def E8:PyData→Option (List PyData)
 | .list ys=>some ys
 | _=>none
theorem QY{d:PyData}{ys:List PyData}(h:E8 d=some ys):d=.list ys:=by cases d with
 | list j=>exact congrArg PyData.list (Option.some.inj h)
 | _=>exact nn h
noncomputable def rO(a b:V):Option Bool:=(a.toPy).bind fun x=>(b.toPy).bind fun y=>(E8 y).bind fun ys=>
 if SeqAt.shaped x&&SeqAt.shaped (.list ys) then some (ys.any fun z=>eqv z x) else none
noncomputable def pO:V→Option Bool
 | .none=>some true
 | .int _=>some false
 | .aE _ _=>some false
 | _=>none
noncomputable def V.zP:V→Option Unit
 | .none=>some ()
 | _=>Option.none
noncomputable def zF(f:Int→Int→Bool)(a b:V):Option Bool:=a.int?.bind fun x=>b.int?.map fun y=>f x y
noncomputable def cQ(σ:aa)(op:CmpOp)(a b:V):Option Bool:=match op with
 | .Lt=>zF (fun a b=>decide (a<b)) a b
 | .Gt=>zF (fun a b=>decide (a>b)) a b
 | .Eq=>mX (flat σ a) (flat σ b)
 | .NotEq=>(mX (flat σ a) (flat σ b)).map (!·)
 | .In=>rO (flat σ a) (flat σ b)
 | .NotIn=>(rO (flat σ a) (flat σ b)).map (!·)
 | .Is=>b.zP.bind fun Z=>pO a
 | _=>none
noncomputable def pM(σ:aa)(v:V)(i:Int):Option V:=
 match v with
 | .tup l=>if 0≤i∧i<2^62 then l[i.toNat]? else none
 | .str x=>if 0≤i∧i<2^62 then (x.cps[i.toNat]?).map fun c=>.str ⟨#[c]⟩ else none
 | v=>(listOf σ v).bind fun l=>if 0≤i∧i<2^62 then l[i.toNat]? else if -(l.length:Int)≤i∧i<0∧l.length<2^20 then l[(i+l.length).toNat]? else none
noncomputable def fE(l:List α)(lo hi st:Option Int):List α:=
 (sliceRange (sliceBounds lo hi st l.length).1 (sliceBounds lo hi st l.length).2.1 (sliceBounds lo hi st l.length).2.2).filterMap (l[·]?)
noncomputable def vq:Option V→Option (Option Int)
 | none=>some none
 | some (.int i)=>some (some i)
 | some _=>none
noncomputable def qw(σ:aa)(v:V)(lo hi st:Option Int):Option V:=
 (listOf σ v).bind fun l=>if l.length<2^20∧st≠some 0 then some (.lst (fE l lo hi st)) else none
noncomputable def iA(me:ao)(e:Expr)(u:V):Option ao:=eS none (fun x Z=>if u.plain&&jk (me.names.lookup x)&&!(me.names.lookup x==some .free) then some (me.set x u) else none) e
noncomputable def oM:ao→List Expr→List V→Option ao
 | me,[],[]=>some me
 | me,t::ts,u::us=>(iA me t u).bind fun az=>oM az ts us
 | _,_,_=>none
noncomputable def sS:Expr→Option (List Expr):=mq none fun ts Z Z=>some ts
theorem AL{ts:List Expr}(h:sS e=some ts):∃c p,e=.Tuple ts c p:=by
 refine bG (rN nS h) ?_;rintro a c p rfl h2;cases h2;exact⟨c,p,rfl⟩
noncomputable def cM(me:ao)(t:Expr)(u:V):Option ao:=match sS t with
 | some ts=>u.v9.bind (oM me ts)
 | none=>iA me t u
section
variable(ev:ao→Expr→aa→Option (V×aa))(tr:ao→Expr→aa→Option (Bool×aa))
noncomputable def b7(me:ao):List Expr→aa→Option (List V×aa)
 | [],σ=>some ([],σ)
 | e::r,σ=>if e.ctorIdx=22 then none else (ev me e σ).bind fun (v,σ)=>(b7 me r σ).map fun (vs,σ)=>(v::vs,σ)
noncomputable def tZ(me:ao):Option Expr→aa→Option (Option V×aa)
 | none,σ=>some (none,σ)
 | some e,σ=>(ev me e σ).map fun (v,σ)=>(some v,σ)
noncomputable def gP(me:ao):BoolOp→List Expr→aa→Option (Bool×aa)
 | op,[],σ=>some (op==.And,σ)
 | op,e::r,σ=>(tr me e σ).bind fun (b,σ)=>match op,b with
  | .And,false=>some (false,σ)
  | .Or,true=>some (true,σ)
  | _,_=>gP me op r σ
noncomputable def xA(me:ao)(op:BoolOp):List Expr→aa→Option (V×aa)
 | [],_=>none
 | [e],σ=>ev me e σ
 | e::r,σ=>(ev me e σ).bind fun (v,σ)=>(gr σ v).bind fun b=>match op,b with
  | .And,false=>some (v,σ)
  | .Or,true=>some (v,σ)
  | _,_=>xA me op r σ
noncomputable def ou(me:ao):List Expr→aa→Option (Bool×aa)
 | [],σ=>some (true,σ)
 | e::r,σ=>(tr me e σ).bind fun (b,σ)=>if b then ou me r σ else some (false,σ)
noncomputable def kG(v:Option V)(n:String):Bool:=match v with
 | some (.ty m)=>m==n
 | _=>false
theorem EL{v:Option V}{n:String}(h:kG v n=true):v=some (.ty n):=by cases v with
 | none=>exact ff h
 | some u=>cases u with
  | ty m=>rw [←eq_of_beq (show (m==n)=true from h)]
  | _=>exact ff h
noncomputable def lz:Expr→Option (Str×Pos×List Expr×Pos):=gu none fun g as w q=>if w.isEmpty=true then eS none (fun f p=>some (f,p,as,q)) g else none
theorem xE{f:Str}{q:Pos}{as:List Expr}(h:lz e=some (f,p,as,q)):e=.Call (.Name f p) as [] q:=by
 refine fu (pK nS h) ?_;rintro g as' w q' rfl h2;refine bZ h2 ?_;intro h3 h4;refine bK (jh nS h4) ?_;rintro x y rfl h5;cases h5;rw [isEmpty_iff.mp h3]
noncomputable def fP(C:Calls)(me:ao)(e:Expr):Bool:=match lz e with
 | some (f,_)=>kG (cy C me f) "enumerate"
 | none=>false
noncomputable def ez(e:Expr):Bool:=(sS e).isSome
noncomputable def vO(u:V):Option (List V):=u.se.or u.v9
noncomputable def one?:List α→Option α
 | [u]=>some u
 | _=>none
theorem jv{l:List α}{u:α}(h:one? l=some u):l=[u]:=by
 cases l with
 | nil=>exact nn h
 | cons a r=>cases r with
  | nil=>obtain rfl:=Option.some.inj h;rfl
  | cons=>exact nn h
noncomputable def v1(d:β)(f:α→β)(l:List α):β:=(one? l).elim d f
theorem i1{d y:β}{f:α→β}{l:List α}(n:d≠y)(h:v1 d f l=y):∃a,l=[a]∧f a=y:=by
 unfold v1 at h;cases e:one? l with
 | none=>rw [e] at h;exact absurd h n
 | some a=>rw [e] at h;exact⟨a,jv e,h⟩
noncomputable def iV:List α→Option (α×α)
 | [a,b]=>some (a,b)
 | _=>none
theorem qB{l:List α}{a b:α}(h:iV l=some (a,b)):l=[a,b]:=by
 cases l with
 | nil=>exact nn h
 | cons x l=>cases l with
  | nil=>exact nn h
  | cons y l=>cases l with
   | nil=>cases h;rfl
   | cons=>exact nn h
noncomputable def v7:List α→Option (α×α×α)
 | a::l=>(iV l).map fun p=>(a,p)
 | _=>none
theorem VS{l:List α}{a b c:α}(h:v7 l=some (a,b,c)):l=[a,b,c]:=by
 cases l with
 | nil=>exact nn h
 | cons x l=>refine aj (vd h) ?_;intro hh;obtain⟨y,z⟩:=hh;intro e h;cases h;rw [qB e]
noncomputable def V.loc?:V→Option Nat
 | .loc n=>some n
 | _=>Option.none
theorem pU{u:V}(h:u.loc?=some n):u=.loc n:=by cases u with
 | loc=>exact congrArg V.loc (Option.some.inj h)
 | _=>exact nn h
noncomputable def bY.acc?:bY→Option (Int×List V)
 | .acc i l=>some (i,l)
 | _=>none
noncomputable def iX(σ:aa)(v:V):Option (Nat×Int×List V):=v.loc?.bind fun m=>(σ[m]?).bind fun o=>o.acc?.map fun x=>(m,x)
theorem Ik{o:bY}{l:List V}(h:o.acc?=some (i,l)):o=.acc i l:=by
 cases o with
 | acc=>cases h;rfl
 | _=>exact nn h
theorem qJ{v:V}{l:List V}(h:iX σ v=some (m,i,l)):v=.loc m∧σ[m]?=some (.acc i l):=by
 refine cps fun Z kk=>?_;refine aH h ?_;intro n e1 h1;refine aH h1 ?_;intro o e2 h2;refine bW h2 ?_;intro j e3 h3;refine kk ?_;clear kk;cases h3;exact⟨pU e1,e2.trans (congrArg some (Ik e3))⟩
theorem tC{l:List V}(h:σ[m]?=some (.acc i l)):iX σ (.loc m)=some (m,i,l):=by
 show (σ[m]?).bind _=_;rw [h];rfl
noncomputable def GB(l:List V):Option (Int×Nat×Int):=((one? l).bind fun u=>u.int?.map fun n=>((0:Int),n.toNat,n)).or ((iV l).bind fun (u,w)=>u.int?.bind fun a=>w.int?.map fun n=>(a,(n - a).toNat,n))
theorem Uq{l:List V}{a n:Int}(h:GB l=some (a,m,n)):m=(n - a).toNat∧(l=[.int n]∧a=0∨l=[.int a,.int n]):=by
 rcases sD h with h|h
 ·refine aH h ?_;intro u e1 h1;refine bW h1 ?_;intro i e2 h2;cases h2;exact⟨by rw [Int.sub_zero],.inl ⟨eu e2▸jv e1,rfl⟩⟩
 ·refine cps fun Z kk=>?_;refine aY h ?_;intro u w e1 h1;refine aH h1 ?_;intro i e2 h2;refine bW h2 ?_;intro j e3 h3;refine kk ?_;clear kk;cases h3;exact⟨rfl,.inr (eu e2▸eu e3▸qB e1)⟩
noncomputable def vH(me:ao)(e:Expr)(σ:aa):Option (List V×aa):=
 (ev me e σ).bind fun (v,σ)=>(vO v).bind fun l=>if l.length<2^20∧V.bD l then some (l,σ) else none
noncomputable def dD(C:Calls)(me:ao)(e:Expr)(σ:aa):Option (List V×aa):=
 match lz e with
 | some (f,_,as,_)=>
  if kG (cy C me f) "range" then
   (b7 ev me as σ).bind fun (vs,σ)=>(GB vs).bind fun (a,m,n)=>if 0≤a∧a≤100∧0≤n∧n≤100 then some ((List.range m).map fun (i:Nat)=>.int (a+i),σ) else none
  else if kG (cy C me f) "enumerate" then
   (b7 ev me as σ).bind fun (vs,σ)=>(one? vs).bind fun u=>u.se.bind fun l=>if l.length<2^20∧V.bD l then some (l.zipIdx.map fun (v,i)=>.tup [.int (i:Int),v],σ) else none
  else vH ev me e σ
 | none=>vH ev me e σ
noncomputable def mW(inner:ao→aa→Option (List V×ao×aa))(t:Expr)(ifs:List Expr):List V→ao→aa→Option (List V×ao×aa)
 | [],me,σ=>some ([],me,σ)
 | v::vs,me,σ=>(cM me t v).bind fun me=>(ou tr me ifs σ).bind fun (ok,σ)=>
  (if ok then inner me σ else some ([],me,σ)).bind fun (out,me,σ)=>
   (mW inner t ifs vs me σ).map fun (rest,me,σ)=>(out++rest,me,σ)
noncomputable def lA(C:Calls)(elt:Expr):List Comprehension→ao→aa→Option (List V×ao×aa)
 | [],me,σ=>(ev me elt σ).bind fun (v,σ)=>if v.plain then some ([v],me,σ) else none
 | ⟨t,it,ifs,a⟩::gs,me,σ=>if a=0&&(!fP C me it||ez t) then (dD ev C me it σ).bind fun (items,σ)=>
  mW tr (lA C elt gs) t ifs items me σ else none
end
noncomputable def eW(scope:Scope)(me:ao):ao:=
 {names:=scope.names,vals:=scope.names.filterMap fun p=>if p.2==.free then (me.vars p.1).map fun u=>(p.1,u) else none,code:=me.code,qual:=me.qual }
noncomputable def i7(me:ao)(scope:Scope):Bool:=scope.kind==.function&&(scope.names.all fun p=>scope.names.lookup p.1==some p.2&&
 (p.2==.local||p.2==.globalImplicit||p.2==.cell||(p.2==.free&&(me.names.lookup p.1==some .cell||me.names.lookup p.1==some .free))))&&
 ((scope.names.all fun p=>!(p.2==.cell))||scope.names.all fun p=>!(p.2==.free)||((me.vars p.1).elim true V.plain))
noncomputable def oN:Expr→Option (Expr×Str×Pos):=sV none fun o n p=>some (o,n,p)
theorem I6{f o:Expr}{n:Str}(h:oN f=some (o,n,p)):f=.Attribute o n p:=by
 refine bG (Eo nS h) ?_;rintro a b c rfl h2;cases h2;rfl
noncomputable def slice?:Expr→Option (Option Expr×Option Expr×Option Expr):=wg none fun lo hi st Z=>some (lo,hi,st)
theorem U8{lo hi st:Option Expr}(h:slice? e=some (lo,hi,st)):∃p,e=.Slice lo hi st p:=by
 refine fu (Eu nS h) ?_;rintro a b c p rfl h2;cases h2;exact⟨p,rfl⟩
noncomputable def rW(l:List Keyword):Option (Str×Expr):=(one? l).bind fun k=>k.arg.map fun n=>(n,k.value)
theorem EZ{l:List Keyword}{k:Str}(h:rW l=some (k,e)):∃p,l=[⟨some k,e,p⟩]:=by
 refine aH h ?_;intro hh;obtain⟨n,x,p⟩:=hh;intro h1 h2;refine bW h2 ?_;intro y h3 h4;obtain rfl:n=some y:=h3;cases h4;exact⟨p,jv h1⟩
noncomputable def xM(l:List CmpOp)(r:List Expr):Option (CmpOp×Expr):=(one? l).bind fun o=>(one? r).map fun e=>(o,e)
theorem Co{l:List CmpOp}{r:List Expr}{o:CmpOp}(h:xM l r=some (o,e)):l=[o]∧r=[e]:=by
 refine aH h ?_;intro a h1 h2;refine bW h2 ?_;intro b h3 h4;cases h4;exact⟨jv h1,jv h3⟩
noncomputable def l7(e:Expr):Bool:=match lz e with
 | some (_,_,[],_)=>false
 | _=>true
noncomputable def HH(σ:aa)(op:UnaryOp)(a:V):Option V:=match op with
 | .Not=>(gr σ a).map fun b=>.bool (!b)
 | .USub=>a.int?.map fun i=>.int (-i)
 | _=>none
section
variable(ev:ao→Expr→aa→Option (V×aa))(tr:ao→Expr→aa→Option (Bool×aa))(C:Calls)
noncomputable def xN(me:ao)(elt:Expr)(scope:Scope)(σ:aa):List Comprehension→Option (V×aa)
 | []=>none
 | ⟨t,it,ifs,a⟩::gs=>if a=0&&gs.all (fun g=>decide (g.is_async=0))&&(!fP C me it||ez t)&&i7 me scope then
  (dD ev C me it σ).bind fun (items,σ)=>
   (mW tr (lA ev tr C elt gs) t ifs items (eW scope me) σ).bind fun (out,_,σ)=>if out.length≤sizeLine then some (.lst out,σ) else none
  else none
noncomputable def qU(me:ao)(l:Expr)(op:CmpOp)(r:Expr)(σ:aa):Option (Bool×aa):=
 (ev me l σ).bind fun (a,σ)=>(ev me r σ).bind fun (b,σ)=>(cQ σ op a b).map fun v=>(v,σ)
noncomputable def qh(me:ao)(o:Expr)(name:Str)(ap:Pos)(as:List Expr)(q:Pos)(σ:aa):Option (V×aa):=
 if l7 o&&ap.endLine==q.line&&decide (as.length<29) then (ev me o σ).bind fun (ov,σ)=>(C.res ov name σ).bind fun f=>
  (b7 ev me as σ).bind fun (vs,σ)=>C.call f (ov::vs) none σ else none
noncomputable def Ce(me:ao)(f:Expr)(as:List Expr)(kws:List Keyword)(q:Pos)(σ:aa):Option (V×aa):=match kws with
 | []=>match oN f with
  | some (o,name,ap)=>qh ev C me o name ap as q σ
  | none=>(ev me f σ).bind fun (fv,σ)=>(b7 ev me as σ).bind fun (vs,σ)=>C.call fv vs none σ
 | k::kws=>(rW (k::kws)).bind fun (k,ke)=>if k=("key":Str)∧as.isEmpty=false∧(oN f).isNone then (ev me f σ).bind fun (fv,σ)=>(b7 ev me as σ).bind fun (vs,σ)=>
  (ev me ke σ).bind fun (kv,σ)=>C.call fv vs (some kv) σ else none
noncomputable def sQ(me:ao)(o i:Expr)(σ:aa):Option (V×aa):=match slice? i with
 | some (lo,hi,st)=>(ev me o σ).bind fun (ov,σ)=>(tZ ev me lo σ).bind fun (a,σ)=>(tZ ev me hi σ).bind fun (b,σ)=>
  (tZ ev me st σ).bind fun (c,σ)=>(vq a).bind fun a=>(vq b).bind fun b=>(vq c).bind fun c=>(qw σ ov a b c).map fun v=>(v,σ)
 | none=>(ev me o σ).bind fun (ov,σ)=>(ev me i σ).bind fun (iv,σ)=>iv.int?.bind fun k=>(pM σ ov k).map fun v=>(v,σ)
noncomputable def wh(me:ao)(e:Expr)(σ:aa):Option (Bool×aa):=(ev me e σ).bind fun (v,σ)=>(gr σ v).map fun b=>(b,σ)
end
mutual
noncomputable def ak(C:Calls):Nat→ao→Expr→aa→Option (V×aa)
 | 0,_,_,_=>none
 | n+1,me,e,σ=>match e with
  | .Constant c _ _=>(Li c).map fun v=>(v,σ)
  | .Name x _=>(cy C me x).map fun v=>(v,σ)
  | .BinOp l op r _=>(ak C n me l σ).bind fun (a,σ)=>(ak C n me r σ).bind fun (b,σ)=>(iC σ op a b).map fun v=>(v,σ)
  | .UnaryOp op x _=>(ak C n me x σ).bind fun (a,σ)=>(HH σ op a).map fun v=>(v,σ)
  | .BoolOp op vs _=>xA (ak C n) me op vs σ
  | .IfExp t a b _=>(aX C n me t σ).bind fun (c,σ)=>if c then ak C n me a σ else ak C n me b σ
  | .List es _=>match es with
   | []=>some (.loc σ.length,σ++[.list []])
   | e::es=>(b7 (ak C n) me (e::es) σ).bind fun (vs,σ)=>if vs.length≤sizeLine then some (.lst vs,σ) else none
  | .Tuple es _ _=>(b7 (ak C n) me es σ).bind fun (vs,σ)=>if vs.length≤sizeLine then some (.tup vs,σ) else none
  | .ListComp elt gs scope _=>xN (ak C n) (aX C n) C me elt scope σ gs
  | .Compare l ops rs _=>(xM ops rs).bind fun (op,r)=>(qU (ak C n) me l op r σ).map fun (b,σ)=>(.bool b,σ)
  | .Lambda as b sc p=>(C.lam me (.Lambda as b sc p)).map fun v=>(v,σ)
  | .Call f as kws q=>Ce (ak C n) C me f as kws q σ
  | .Subscript o i _=>sQ (ak C n) me o i σ
  | _=>none
noncomputable def aX(C:Calls):Nat→ao→Expr→aa→Option (Bool×aa)
 | 0,_,_,_=>none
 | n+1,me,e,σ=>match e with
  | .UnaryOp op x p=>if op=.Not then (aX C n me x σ).map fun (b,σ)=>(!b,σ) else wh (ak C n) me (.UnaryOp op x p) σ
  | .BoolOp op vs _=>gP (aX C n) me op vs σ
  | .IfExp ..=>none
  | .Compare l ops rs _=>(xM ops rs).bind fun (op,r)=>qU (ak C n) me l op r σ
  | e=>wh (ak C n) me e σ
end
end
section
variable{h h':Heap}{a:Addr}{o:Obj}{s s' s₁ t:Shared}{ρ ρ':aB}{σ σ' σ₁:aa}{env:Env}{u:Bool}{v:Value}{ah:List (Addr×Addr)}{A:Around}{E:Value→Shared→Prop}{k n:Nat}
variable{X:Ctx}
noncomputable def bX(h:Heap)(a:Addr):Prop:=∃o,h.get? a=some o∧((∃es ep,o.data=.dict es ep)∨isSeq o)
theorem bX.keep(x:bX h a)(k:∀o,h.get? a=some o→h'.get? a=some o):bX h' a:=let⟨o,e,d⟩:=x;⟨o,k o e,d⟩
theorem bX.F0(x:bX h a)(e:h.get? a=some o):∀ps,o≠tabObj ps:=by
 rintro ps rfl;refine aj x ?_;clear x;intro o' e' d;obtain rfl:=Option.some.inj (e.symm.trans e');rcases d with⟨es,ep,d⟩|⟨xs,n,d⟩<;>cases d
structure b5(X:Ctx)(ρ:aB)(env:Env)(me:ao)(h:Heap):Prop where
 kind:env.scope.kind=.function
 globals:env.globals=mainGlobals
 builtins:env.builtins=builtinsNs
 code:me.code≠.none→env.code=me.code
 qual:env.qual=me.qual
 names:∀x k,me.names.lookup x=some k→env.kindOf x=some k∨(k=.free∧env.kindOf x=some .cell)
 loc:∃m,h.Ns env.locals m∧∀x u,me.names.lookup x=some .local→me.vars x=some u→∃v,m x=some v∧VR X ρ h v u
 cell:∀x k,me.names.lookup x=some k→(k=.cell∨k=.free)→∃c ov,env.cells.lookup x=some c∧c∉fp ρ∧h.IsCell c ov∧
  ∀u,me.vars x=some u→∃v,ov=some v∧VR X ρ h v u
 priv:env.locals∈ρ.priv
 pl:(∃x,me.names.lookup x=some .cell)→∀x u,jk (me.names.lookup x)=true→me.vars x=some u→u.plain=true
 inj:∀x y c,env.cells.lookup x=some c→env.cells.lookup y=some c→x=y
 pv:∀a∈ρ.priv,bX h a
theorem aq.lY(A:aq X s)(e:s.heap.get? a=some o)(hv:∀ps,o≠tabObj ps)(_hs:a≠cStatics∨∀es ep,o.data≠.dict es ep):¬X.tab a:=by
 intro ht;refine aj (mem_map.mp ht) ?_;intro hh;obtain⟨T,q⟩:=hh;rintro hm rfl;refine aj ((A.tab T q hm).ok) ?_;intro ps hp _;exact hv ps (Option.some.inj (e.symm.trans hp))
theorem Step.ns(A:aq X s)(S:Step X ρ ρ' s.heap h'){m:Str→Option Value}(H:s.heap.Ns a m)(ha:a∉lp ρ.ah)(hs:a≠cStatics):h'.Ns a m:=by
 refine dw H ?_;clear H;intro o es ep e d r;refine⟨o,es,ep,S.keep a o e (A.lY e (fun ps q=>?_) (.inl hs)) ha,d,r⟩;subst q;cases d
theorem Step.cell(A:aq X s)(S:Step X ρ ρ' s.heap h'){ov:Option Value}(H:s.heap.IsCell a ov)(ha:a∉lp ρ.ah):h'.IsCell a ov:=by
 refine aj H ?_;clear H;intro o e d;refine⟨o,S.keep a o e (A.lY e (fun ps q=>?_) (.inr fun es ep z=>by rw [d] at z;cases z)) ha,d⟩
 subst q;cases d
theorem b5.step{me:ao}(A:aq X s)(R:Rel X ρ σ s.heap)(S:Step X ρ ρ' s.heap h')(hp:ρ'.priv=ρ.priv)(H:b5 X ρ env me s.heap):b5 X ρ' env me h' where
 kind:=H.kind
 globals:=H.globals
 builtins:=H.builtins
 code:=H.code
 qual:=H.qual
 names:=H.names
 loc:=by
  refine aj H.loc ?_;intro m hn hv;refine⟨m,S.ns A hn (fun q=>R.cR _ q H.priv) (jt (R.ge _ (aI.mpr (.inr H.priv)))),fun x u h1 h2=>?_⟩;refine aj (hv x u h1 h2) ?_;intro v h3 h4;exact⟨v,h3,h4.step A S⟩
 cell:=fun x k h1 h2=>by
  refine bV (H.cell x k h1 h2) ?_;intro c ov e1 e2 e3 e4;refine⟨c,ov,e1,fun q=>?_,S.cell A e3 fun q=>e2 (aI.mpr (.inl q)),fun u hu=>?_⟩
  ·refine aj e3 ?_;clear e3;intro o eo _;exact absurd (S.fresh c q e2) (not_le.mpr (lt_size eo))
  ·refine aj (e4 u hu) ?_;intro v h3 h4;exact⟨v,h3,h4.step A S⟩
 priv:=by rw [hp];exact H.priv
 pl:=H.pl
 inj:=H.inj
 pv:=fun a ha=>by
  rw [hp] at ha;exact (H.pv a ha).keep fun o e=>S.keep a o e (A.lY e ((H.pv a ha).F0 e) (.inl (jt (R.ge _ (aI.mpr (.inr ha)))))) fun q=>R.cR _ q ha
structure aM(h h':Heap):Prop where
 keep:∀b o,h.get? b=some o→h'.get? b=some o
 size:h.objs.size≤h'.objs.size
theorem aM.refl(h:Heap):aM h h:=⟨fun Z Z e=>e,le_refl _⟩
theorem aM.trans{a b c:Heap}(x:aM a b)(y:aM b c):aM a c:=⟨fun b o e=>y.keep b o (x.keep b o e),le_trans x.size y.size⟩
theorem aM.push(h:Heap)(o:Obj):aM h (h.push o):=⟨fun Z Z e=>get?_push_of_some _ e,by rw [size_push];exact le_succ _⟩
theorem aM.step(G:aM h h')(ρ:aB):Step X ρ ρ h h':=⟨fun a o e Z Z=>G.keep a o e,prefix_refl _,fun Z q n=>absurd q n,fun Z q n=>absurd q n,G.size⟩
theorem TabOk.keeps{T:Addr}{q:Str}(H:TabOk h T q)(k:∀b o,h.get? b=some o→h'.get? b=some o):TabOk h' T q:=by
 refine bQ H.ok ?_;intro ps a b c;refine⟨ps,k _ _ a,b,fun pos cv e=>?_⟩;refine iH (c pos cv e) ?_;intro cc co ws t e1 e2 e4 e5 e6;exact⟨cc,co,ws,t,e1,k _ _ e2,e4,e5,e6⟩
theorem aq.grown(A:aq X s)(G:aM s.heap s'.heap)(ho:s'.os=s.os:=by rfl)(hg:s'.gens=s.gens:=by rfl):aq X s' where
 keep:=fun a o e t=>G.keep a o (A.keep a o e t)
 tab:=fun T q m=>(A.tab T q m).keeps G.keep
 os:=ho.trans A.os
 gens:=hg▸A.gens
 size:=le_trans A.size G.size
 lim:=by refine aj A.lim ?_;intro mc hh;refine bG hh ?_;clear hh;intro o es ep e r;intro h;exact⟨mc,⟨o,es,ep,G.keep _ _ e,r⟩,h⟩
theorem Rel.grown(R:Rel X ρ σ h)(G:aM h h'):Rel X ρ σ h':=by
 refine R.mono ⟨fun a o e Z Z=>G.keep a o e,prefix_refl _,fun a q n=>absurd q n⟩ (fun a ha=>?_) G.size;refine aj (dj.mp ha) ?_;intro p hp hpa;obtain⟨i,hi,rfl⟩:=getElem_of_mem hp;refine aj (R.get (getElem?_eq_getElem hi)) ?_;intro m _ om;have:∃o,h.get? a=some o:=by
  generalize ρ.ah[i]=p at om hpa;cases om with
  | list x _ _=>refine aA x ?_;clear x;intro n e;rcases hpa with rfl|rfl<;>exact⟨_,e⟩
  | iter x _ _ _ _=>refine aj x ?_;clear x;intro o e _;rcases hpa with rfl|rfl<;>exact⟨o,e⟩
  | acc x _ _=>obtain⟨n,t,hh,kt,e1,e2⟩:=x;rcases hpa with rfl|rfl;exact⟨_,e1⟩;exact⟨_,e2⟩
 refine aA this ?_;clear this;intro o e;rw [e,G.keep a o e]
structure bB(X:Ctx)(h₀:Heap)(ρ₀:aB)(env:Env)(me:ao)(ρ:aB)(σ:aa)(s:Shared):Prop where
 aG:aq X s
 rel:Rel X ρ σ s.heap
 en:b5 X ρ env me s.heap
 step:Step X ρ₀ ⟨ρ.ah,ρ₀.priv⟩ h₀ s.heap
 base:nB≤h₀.objs.size
 jm:h₀.objs.size≤env.locals
 gw:∀x c,me.names.lookup x=some .cell→env.cells.lookup x=some c→h₀.objs.size≤c
inductive aD(X:Ctx)(ρ:aB)(s:Shared)(σ':aa)(u:V)(v:Value)(s':Shared):Prop
 | mk (ah:List (Addr×Addr)):Step X ρ ⟨ah,ρ.priv⟩ s.heap s'.heap→aq X s'→Rel X ⟨ah,ρ.priv⟩ σ' s'.heap→VR X ⟨ah,ρ.priv⟩ s'.heap v u→aD X ρ s σ' u v s'
inductive wO(X:Ctx)(ρ:aB)(s:Shared)(σ':aa)(u:List V)(v:List Value)(s':Shared):Prop
 | mk (ah:List (Addr×Addr)):Step X ρ ⟨ah,ρ.priv⟩ s.heap s'.heap→aq X s'→Rel X ⟨ah,ρ.priv⟩ σ' s'.heap→aC X ⟨ah,ρ.priv⟩ s'.heap v u→wO X ρ s σ' u v s'
inductive fK(X:Ctx)(ρ:aB)(s:Shared)(σ':aa)(b:Bool)(v:Bool)(s':Shared):Prop
 | mk (ah:List (Addr×Addr)):Step X ρ ⟨ah,ρ.priv⟩ s.heap s'.heap→aq X s'→Rel X ⟨ah,ρ.priv⟩ σ' s'.heap→v=b→fK X ρ s σ' b v s'
theorem aD.here{u:V}(A:aq X s)(R:Rel X ρ σ s.heap)(G:aM s.heap s'.heap)(hv:VR X ρ s'.heap v u)(ho:s'.os=s.os:=by rfl)(hg:s'.gens=s.gens:=by rfl):aD X ρ s σ u v s':=
 ⟨ρ.ah,G.step ρ,A.grown G ho hg,R.grown G,hv⟩
theorem fK.here{b:Bool}(A:aq X s)(R:Rel X ρ σ s.heap)(G:aM s.heap s'.heap)(ho:s'.os=s.os:=by rfl)(hg:s'.gens=s.gens:=by rfl):fK X ρ s σ b b s':=
 ⟨ρ.ah,G.step ρ,A.grown G ho hg,R.grown G,rfl⟩
theorem aD.after{u:V}(S:Step X ρ ⟨ah,ρ.priv⟩ s.heap s₁.heap)(P:aD X ⟨ah,ρ.priv⟩ s₁ σ' u v s'):aD X ρ s σ' u v s':=by
 obtain⟨l,a,b,c,d⟩:=P;exact⟨l,S.trans a,b,c,d⟩
theorem fK.after{v:Bool}(S:Step X ρ ⟨ah,ρ.priv⟩ s.heap s₁.heap)(P:fK X ⟨ah,ρ.priv⟩ s₁ σ' u v s'):fK X ρ s σ' u v s':=by
 obtain⟨l,a,b,c,d⟩:=P;exact⟨l,S.trans a,b,c,d⟩
theorem cB{v u:V}{c:Sem Value}(h:(v,σ₁)=(u,σ'))(k:wpAny (model P X.w) A c (aD X ρ s σ₁ v) E t):wpAny (model P X.w) A c (aD X ρ s σ' u) E t:=by cases h;exact k
theorem Gh{v:Bool}{c:Sem Bool}(h:(v,σ₁)=(u,σ'))(k:wpAny (model P X.w) A c (fK X ρ s σ₁ v) E t):wpAny (model P X.w) A c (fK X ρ s σ' u) E t:=by cases h;exact k
structure aT(n:Nat)(A:Around):Prop where
 handled:A.handled=none
 depth:A.depth+2*n<600
 units:A.units+40*n<9000
theorem qu{a b m:Nat}(h:a+k*(n+1)<m)(hb:b≤k):a+b+k*n<m:=by
 rw [add_assoc,add_comm b];exact lt_of_le_of_lt (add_le_add_left (add_le_add_left hb (k*n)) a) h
theorem GP{a m l:Nat}(h:a+k*n<l)(hm:m≤n):a+k*m<l:=lt_of_le_of_lt (add_le_add_left (Nat.mul_le_mul_left k hm) a) h
theorem aT.less{m:Nat}(R:aT n A)(h:m≤n):aT m A:=⟨R.handled,GP R.depth h,GP R.units h⟩
theorem aT.deeper(R:aT (n+1) A):aT n (A.deeper env):=⟨R.handled,qu (b:=1) R.depth (by decide),qu (b:=3) R.units (by decide)⟩
noncomputable abbrev P:Program:=PySem.Challenge.pw_wa0020_01
end
end Mine
end
section
open PySem PySem.W PySem.Calls PyProof.Rows
namespace Mine
section
variable{ρ:aB}{h:Heap}{v w:Value}{u x y:V}{d:PyData}{vs:List Value}{us:List V}{σ:aa}{b:Bool}{op:Operator}{t':Tok}
variable{X:Ctx}
theorem VR.GF:(∀{v:Value} {u:V},VR X ρ h v u→∀{d:PyData},u.toPy=some d→∃as,Reads h v d as)∧(∀{vs:List Value} {us:List V},aC X ρ h vs us→∀{ds:List PyData},V.jY us=some ds→∃as,ReadsAll h vs ds as):=by
 refine VR.ind (M:=fun v u=>∀{d:PyData},u.toPy=some d→∃as,Reads h v d as) (Ms:=fun vs us=>∀{ds:List PyData},V.jY us=some ds→∃as,ReadsAll h vs ds as)
  (fun e=>?_) (fun b Z e=>?_) (fun i t Z e=>?_) (fun x t Z e=>?_) (fun a Z Z ih Z e=>?_) (fun a Z Z ih Z e=>?_) (fun Z Z e=>nn e) (fun Z Z Z e=>nn e) (fun Z Z e=>nn e) (fun Z Z e=>nn e) (fun Z Z Z Z Z e=>nn e)
  (fun e=>?_) (fun Z Z ia ir Z e=>?_)
 ·cases e;exact⟨_,.none⟩
 ·cases e;exact⟨_,.bool b⟩
 ·cases e;exact⟨_,.int i t⟩
 ·cases e;exact⟨_,.str x t⟩
 ·refine bW e ?_;rintro ds e' rfl;refine aA (ih e') ?_;intro as q;refine aA a ?_;clear a;intro n p;exact⟨_,.tuple p rfl rfl q⟩
 ·refine bW e ?_;rintro ds e' rfl;refine aA (ih e') ?_;intro as q;refine aA a ?_;clear a;intro n p;exact⟨_,.list p rfl rfl q⟩
 ·cases e;exact⟨_,.nil⟩
 ·refine aH e ?_;intro d e1 e;refine bW e ?_;rintro ds e2 rfl;refine aA (ia e1) ?_;intro as q;refine aA (ir e2) ?_;intro bs q';exact⟨_,.cons q q'⟩
theorem VR.reads(r:VR X ρ h v u)(e:u.toPy=some d):∃as,Reads h v d as:=VR.GF.1 r e
theorem aC.reads{ds:List PyData}(r:aC X ρ h vs us)(e:V.jY us=some ds):∃as,ReadsAll h vs ds as:=VR.GF.2 r e
theorem iL(R:Rel X ρ σ h){l:List V}(r:VR X ρ h v u)(e:listOf σ u=some l):∃a vs,v=.ref a∧PL h a vs∧aC X ρ h vs.toList l:=by
 cases u with
 | lst l'=>refine bV r.inv ?_;rintro a vs rfl p _ c;obtain rfl:=Option.some.inj e;exact⟨a,vs,rfl,p,c⟩
 | loc n=>refine aj r.inv ?_;rintro p rfl q;refine bV ((R.obj n p _ q (rY e)).inv) ?_;rintro _ _ rfl a b _;exact⟨_,_,rfl,a,b⟩
 | _=>exact nn e
theorem ur(R:Rel X ρ σ h)(r:VR X ρ h v u)(e:(flat σ u).toPy=some d):∃as,Reads h v d as:=by
 unfold flat at e;cases hl:listOf σ u with
 | some l=>rw [hl] at e;refine bw (iL R r hl) ?_;rintro a vs rfl hh;refine aA hh ?_;clear hh;intro n p;intro q;refine bW (show (V.jY l).map PyData.list=some d from e) ?_;rintro ds e' rfl;refine aA (aC.reads q e') ?_;intro as z;exact⟨_,.list p rfl rfl z⟩
 | none=>rw [hl] at e;exact VR.reads r e
section
variable{A:Around}{E:Value→Shared→Prop}{s:Shared}{ρ:aB}{σ:aa}{k:Nat}
theorem AK(Am:aq X s)(R:Rel X ρ σ s.heap)(r:VR X ρ s.heap v u)(e:gr σ u=some b) :
 wpAny (model P X.w) A (truthy v) (fK X ρ s σ b) E s:=by
 cases u with
 | bool c=>obtain rfl:=r.inv;obtain rfl:=Option.some.inj e;exact wpAny_truthy_bool (fK.here Am R (aM.refl _))
 | int i=>
  refine aA r.inv ?_;rintro t rfl;obtain rfl:=Option.some.inj e;refine truthy_int ?_;have:(i != 0)=decide (i≠0):=by simp [bne,BEq.beq]
  rw [this];exact fK.here Am R (aM.refl _)
 | lst l=>
  refine bV r.inv ?_;rintro ad vs rfl a hb c;refine bJ e ?_;rintro hl rfl;have hlen:vs.size=l.length:=c.length;refine wpAny_truthy_list a.is (by rw [hlen];lia) ?_
  have:(!vs.isEmpty)=!l.isEmpty:=by
   congr 1;show decide (vs.size=0)=_;rw [hlen];cases l<;>simp
  rw [this];exact fK.here Am R (aM.refl _)
 | _=>exact nn e
theorem CV(R:Rel X ρ σ s.heap)(r:VR X ρ s.heap v u)(q:VR X ρ s.heap w x)(e:mX (flat σ u) (flat σ x)=some b) :
 ∃d1 d2 as bs,Reads s.heap v d1 as∧Reads s.heap w d2 bs∧SeqAt.shaped d1=true∧SeqAt.shaped d2=true∧b=eqv d1 d2:=by
 refine cps fun Z kk=>?_;refine aH e ?_;clear e;intro d1 e1 e;refine aH e ?_;clear e;intro d2 e2 e;refine bJ e ?_;rintro hs rfl;refine kk ?_;clear kk;refine aA (ur R r e1) ?_;intro as ra;refine aA (ur R q e2) ?_;intro bs rb;refine au (and_eq_true_iff.mp hs) ?_;intro h1 h2;exact⟨d1,d2,as,bs,ra,rb,h1,h2,rfl⟩
theorem Ez(hu:A.units+65<cLine)(R:Rel X ρ σ s.heap)(r:VR X ρ s.heap v u)(q:VR X ρ s.heap w x)(e:rO (flat σ u) (flat σ x)=some b) :
 ∃d ys as bs,Reads s.heap v d as∧Reads s.heap w (.list ys) bs∧d.canLay0=true∧(PyData.list ys).canLay0=true∧A.units+1+min (depthAll ys) d.depth<cLine∧b=ys.any fun z=>eqv z d:=by
 refine cps fun Z kk=>?_;refine aH e ?_;clear e;intro d1 e1 e;refine aH e ?_;clear e;intro d2 e2 e;refine aH e ?_;clear e;intro ys e3 e;refine kk ?_;clear kk;obtain rfl:=QY e3;refine bJ e ?_;rintro hs rfl;refine aA (ur R r e1) ?_;intro as ra;refine aA (ur R q e2) ?_;intro bs rb;refine au (and_eq_true_iff.mp hs) ?_;intro h1 h2;have h3:=SeqAt.depth_of_shaped h1;have h4:min (depthAll ys) d1.depth≤d1.depth:=Nat.min_le_right _ _;exact⟨d1,ys,as,bs,ra,rb,SeqAt.canLay_of_shaped h1,SeqAt.canLay_of_shaped h2,lt_of_le_of_lt (add_le_add_left (le_trans h4 h3) (A.units+1)) hu,rfl⟩
theorem Fj{f:Int→Int→Bool}(r:VR X ρ s.heap v u)(q:VR X ρ s.heap w x)(e:zF f u x=some b):∃i j t t',v=.int i t∧w=.int j t'∧b=f i j:=by
 refine aH e ?_;clear e;intro i e1 e;refine bW e ?_;rintro j e2 rfl;obtain rfl:=eu e1;obtain rfl:=eu e2;refine aA r.inv ?_;rintro t rfl;refine aA q.inv ?_;rintro t' rfl;exact⟨i,j,t,t',rfl,rfl,rfl⟩
theorem Ql(r:VR X ρ s.heap v u)(e:pO u=some b):wpAny (model P X.w) A (compareOp .Is v .none) (fun c s'=>c=.bool b∧s'=s) E s:=by
 cases u with
 | none=>obtain rfl:=r.inv;obtain rfl:=Option.some.inj e;exact wpAny_is_plain rfl ⟨rfl,rfl⟩
 | int i=>refine aA r.inv ?_;rintro t rfl;obtain rfl:=Option.some.inj e;exact wpAny_is_plain rfl ⟨rfl,rfl⟩
 | aE=>refine bG r.inv ?_;rintro a vs os rfl _;obtain rfl:=Option.some.inj e;exact wpAny_is_plain rfl ⟨rfl,rfl⟩
 | _=>exact nn e
theorem none_of{i:Unit}(h:u.zP=some i):u=.none:=by cases u with
 | none=>rfl
 | _=>exact nn h
theorem Lb(Rm:aT k A)(R:Rel X ρ σ s.heap){op:CmpOp}(r:VR X ρ s.heap v u)(q:VR X ρ s.heap w x)(e:cQ σ op u x=some b) :
 wpAny (model P X.w) A (compareOp op v w) (fun c s'=>c=.bool b∧s'=s) E s:=by
 have hu:A.units+65<cLine:=by have:=Rm.units;show _<9900;lia
 cases op with
 | Lt=>refine tW (Fj r q e) ?_;rintro i j t t' rfl rfl rfl;exact lt_int ⟨rfl,rfl⟩
 | Gt=>refine tW (Fj r q e) ?_;rintro i j t t' rfl rfl rfl;exact gt_int ⟨rfl,rfl⟩
 | Eq=>refine iH (CV R r q e) ?_;rintro d1 d2 as bs ra rb h1 h2 rfl;exact eq_dataH ra rb h1 h2 (by lia) ⟨rfl,rfl⟩
 | NotEq=>refine aj (vd e) ?_;rintro c e' rfl;refine iH (CV R r q e') ?_;rintro d1 d2 as bs ra rb h1 h2 rfl;exact ne_dataH ra rb h1 h2 (by lia) ⟨rfl,rfl⟩
 | In=>refine cps fun Z kk=>?_;obtain⟨d,ys,as,bs,ra,rb,h1,h2,h3,rfl⟩:=Ez hu R r q e;refine kk ?_;clear kk;exact SeqAt.in_list_reads rb ra h2 h1 h3 ⟨rfl,rfl⟩
 | NotIn=>refine aj (vd e) ?_;rintro c e' rfl;refine cps fun Z kk=>?_;obtain⟨d,ys,as,bs,ra,rb,h1,h2,h3,rfl⟩:=Ez hu R r q e';refine kk ?_;clear kk;exact SeqAt.notIn_list_reads rb ra h2 h1 h3 ⟨rfl,rfl⟩
 | Is=>refine aj (xx e) ?_;intro _ e1 e;obtain rfl:=none_of e1;obtain rfl:=q.inv;exact Ql r e
 | _=>exact nn e
theorem PK{a b i:Int}{t:Tok}{Q:Value→Shared→Prop}(e:kE op a b=some i)(h:∀(t:Tok) (t':Nat),Q (.int i t) { s with toks:=t' }):wpAny (model P X.w) A (binaryOp op (.int a t) (.int b t')) Q E s:=by
 cases op with
 | Add=>obtain rfl:=Option.some.inj e;exact PyProof.Rows.add_int (h _ _)
 | Sub=>obtain rfl:=Option.some.inj e;exact PyProof.Rows.sub_int (h _ _)
 | Mult=>refine au (jO e) ?_;rintro hs rfl;exact PyProof.Rows.mul_int (h _ _) (by mul_fits)
 | FloorDiv=>refine au (jO e) ?_;rintro hs rfl;exact PyProof.Rows.floordiv_int hs.1 (h _ _) (Or.inl (PyProof.noPylong_small hs.2))
 | Mod=>refine au (jO e) ?_;rintro hs rfl;exact PyProof.Rows.mod_int hs (h _ _)
 | Pow=>refine au (jO e) ?_;rintro hs rfl;exact PyProof.Rows.pow_int_small hs.1 (Int.le_trans hs.2.1 (by decide)) hs.2.2 (h _ _)
 | LShift=>refine au (jO e) ?_;rintro hs rfl;exact PyProof.Rows.lshift_int_small hs.1 (Int.le_trans hs.2.1 (by decide)) hs.2.2 (h _ _)
 | RShift=>refine au (jO e) ?_;rintro hs rfl;exact PyProof.Rows.rshift_int hs (h _ _)
 | BitAnd=>obtain rfl:=Option.some.inj e;exact PyProof.Rows.and_int (h _ _)
 | BitOr=>obtain rfl:=Option.some.inj e;exact PyProof.Rows.or_int (h _ _)
 | BitXor=>obtain rfl:=Option.some.inj e;exact PyProof.Rows.xor_int (h _ _)
 | MatMult=>exact nn e
 | Div=>exact nn e
theorem zL(Am:aq X s)(R:Rel X ρ σ s.heap){vs:Array Value}(q:aC X ρ s.heap vs.toList us):aD X ρ s σ (.lst us) (.ref s.heap.objs.size) { s with heap:=s.heap.push { cls:=.type "list",data:=.seq vs } }:=by
 have G:=aM.push s.heap { cls:=.type "list",data:=.seq vs };exact aD.here Am R G (.lst ⟨0,get?_push_size _ rfl⟩ (fun hm=>lt_irrefl _ (R.lt _ hm)) (q.step Am (G.step ρ)))
theorem Iq(Am:aq X s)(R:Rel X ρ σ s.heap)(r:VR X ρ s.heap v u)(q:VR X ρ s.heap w x)(e:Bp σ u x=some y):wpAny (model P X.w) A (binaryOp .Add v w) (aD X ρ s σ y) E s:=by
 rcases sD e with e|e
 ·refine cps fun Z kk=>?_;refine aH e ?_;clear e;intro a e1 e;refine aH e ?_;clear e;intro b e2 e;refine bJ e ?_;rintro hs rfl;refine kk ?_;clear kk;obtain rfl:=iU e1;obtain rfl:=iU e2;refine aA r.inv ?_;rintro t rfl;refine aA q.inv ?_;rintro t' rfl;exact PyProof.Rows.add_str (fun t' k=>aD.here Am R (aM.refl _) (.str _ _)) hs
 ·refine cps fun Z kk=>?_;refine aH e ?_;clear e;intro a e1 e;refine aH e ?_;clear e;intro b e2 e;refine bJ e ?_;rintro hs rfl;refine kk ?_;clear kk;refine bw (iL R r e1) ?_;rintro l1 v1 rfl hh;refine aA hh ?_;clear hh;intro n1 p1;intro q1;refine bw (iL R q e2) ?_;rintro l2 v2 rfl hh;refine aA hh ?_;clear hh;intro n2 p2;intro q2;refine P.add_list p1 p2 (zL Am R ?_) (by rw [show v1.size=a.length from q1.length,show v2.size=b.length from q2.length];exact hs)
  rw [toList_append];exact q1.append q2
theorem aC.flat(c:aC X ρ s.heap vs us):∀m:Nat,aC X ρ s.heap (replicate m vs).flatten (replicate m us).flatten:=by
 intro m
 induction m with
 | zero=>exact .nil
 | succ m rc=>rw [List.replicate_succ,List.replicate_succ,List.flatten_cons,List.flatten_cons];exact c.append (rc)
theorem RZ(Am:aq X s)(R:Rel X ρ σ s.heap){n:Int}(r:VR X ρ s.heap v u)(e:mulM u n=some y):wpAny (model P X.w) A (binaryOp .Mult v (.int n t')) (aD X ρ s σ y) E s:=by
 rcases sD e with e|e
 ·refine aH e ?_;clear e;intro a e1 e;refine bJ e ?_;intro hh;refine bO hh ?_;clear hh;intro h0 h8 hl;rintro rfl;obtain rfl:=iU e1;refine aA r.inv ?_;rintro t rfl;refine SB.mul ⟨by simp;lia,fun h1 Z h3=>?_,fun Z Z=>?_⟩ (fun t' k=>aD.here Am R (aM.refl _) (.str _ _))
  ·have:(2^63 - 1:Int)/n ≥ 8:=by
    rw [ge_iff_le,Int.le_ediv_iff_mul_le (Int.not_lt.mp h1)];exact Int.le_trans (Int.mul_le_mul_of_nonneg_left h8 (by decide)) (by decide)
   lia
  ·have hm:a.length*n.toNat≤8*8:=Nat.mul_le_mul hl (toNat_le.mpr h8);simp [Builtin.Str.tooLong,sizeLine];lia
 ·refine aH e ?_;clear e;intro us e1 e;refine bJ e ?_;intro hh;refine bO hh ?_;clear hh;intro h0 h8 hl;rintro rfl;obtain rfl:=u9 e1;refine bV r.inv ?_;rintro l vs rfl hh;refine aA hh ?_;clear hh;intro k ho;intro ha c;have hlen:vs.size=us.length:=c.length;have hsz':vs.size*n.toNat≤256:=le_trans (Nat.mul_le_mul (show vs.size≤8 from hlen▸hl) (toNat_le.mpr h8)) (by decide)
  refine wpAny_binaryOp_repeat_ref (T:="list") (U:="int") (by decide) ⟨_,ho,rfl⟩ (fun s'=>typeIs_int s' n t') noFill_list_mul F.fills_int_mul F.slot_int_rmul repeat_list F.slot_int_index.lookup
   (call_meets F.slot_int_rmul (typeIs_int s n t') F.entry_int_rmul (F.args_int_rmul_2 _ _) (lm_int_rmul_list_any n t' l vs k none #[])
    ⟨ho,rfl,⟨_,ho,rfl⟩,call_meets F.slot_list_mul ⟨_,ho,rfl⟩ F.entry_list_mul (F.args_list_mul_2 _ _)
     (lm_list_mul_any l vs k none #[] n t' (by simp [Builtin.List.listFitsIndex];lia) (by lia) (by simp [Builtin.List.listTooLong,sizeLine];lia))
     ⟨ho,?_⟩⟩)
  have hv:vs=vs.toList.toArray:=by simp
  rw [hv,listMul_foldl_if];exact zL Am R (c.flat _)
theorem J4(Am:aq X s)(R:Rel X ρ σ s.heap)(r:VR X ρ s.heap v u)(q:VR X ρ s.heap w x)(e:iC σ op u x=some y) :
 wpAny (model P X.w) A (binaryOp op v w) (aD X ρ s σ y) E s:=by
 replace e:=sD e;rcases e with e|e
 ·refine cps fun Z kk=>?_;refine aH e ?_;clear e;intro a e1 e;refine aH e ?_;clear e;intro b e2 e;refine bW e ?_;rintro i e' rfl;refine kk ?_;clear kk;obtain rfl:=eu e1;obtain rfl:=eu e2;refine aA r.inv ?_;rintro t rfl;refine aA q.inv ?_;rintro t' rfl;exact PK e' fun t t'=>aD.here Am R (aM.refl _) (.int _ t)
 ·unfold GU at e
  by_cases h:op=.Add
  ·subst h;exact Iq Am R r q ((if_pos rfl).symm.trans e)
  ·rw [if_neg h] at e;refine bZ e ?_;clear e;intro ho e;subst ho;refine aH e ?_;clear e;intro n e1 e;obtain rfl:=eu e1;refine aA q.inv ?_;rintro t' rfl;exact RZ Am R r e
end
end
section
variable{i:Int}{value slice:Expr}{v:Value}{u y:V}
variable{X:Ctx}
section
variable{A:Around}{E:Value→Shared→Prop}{s:Shared}{ρ:aB}{σ:aa}{k:Nat}
theorem seqIndex_nonneg{n:Nat}(h0:0≤i)(h1:i.toNat<n):seqIndex? i n=some i.toNat:=by
 unfold seqIndex?;have e:(if i<0 then i+n else i)=i:=if_neg (Int.not_lt.mpr h0)
 dsimp only;rw [e];exact if_pos (by rw [decide_eq_true h0,decide_eq_true ((toNat_lt h0).mp h1)];rfl)
theorem Ax(slice:Expr)(o i:Value):∃ops,subscripted slice false o i=operate ops (getItem o i):=by
 cases slice with
 | Slice a b c p=>cases c<;>exact⟨_,rfl⟩
 | _=>exact⟨_,rfl⟩
theorem Pg(Am:aq X s)(R:Rel X ρ σ s.heap){t:Tok}(r:VR X ρ s.heap v u)(e:pM σ u i=some y) :
 wpAny (model P X.w) A (subscriptTail value slice v (.int i t)) (aD X ρ s σ y) E s:=by
 refine aA (Ax slice v (.int i t)) ?_;intro ops nv;have lst:((listOf σ u).bind fun l=>if 0≤i∧i<2^62 then l[i.toNat]? else if -(l.length:Int)≤i∧i<0∧l.length<2^20 then l[(i+l.length).toNat]? else none)=some y→
  wpAny (model P X.w) A (subscriptTail value slice v (.int i t)) (aD X ρ s σ y) E s:=by
  intro e;refine aH e ?_;clear e;intro l hl e;refine bw (iL R r hl) ?_;rintro a vs rfl p q;have hlen:vs.size=l.length:=q.length;refine tail_any p.is.typeIs slot_list_getitem.lookup ?_ nv
  by_cases h:0≤i∧i<2^62
  ·rw [if_pos h] at e;refine aj (q.get e) ?_;intro x hx rx;exact wpAny_getItem_list p.is h.1 (by lia) (getElem?_toList.symm.trans hx) (aD.here Am R (aM.refl _) rx)
  ·rw [if_neg h] at e;refine bZ e ?_;clear e;intro h e;refine aj (q.get e) ?_;intro x hx rx;exact wpAny_getItem_list_neg p.is h.2.1 (by rw [hlen];exact h.1) (by lia) (by rw [hlen];exact getElem?_toList.symm.trans hx) (aD.here Am R (aM.refl _) rx)
 cases u with
 | tup l=>refine bV r.inv ?_;rintro ad vs rfl hh;refine aA hh ?_;clear hh;intro n p;intro _ c;refine bZ e ?_;clear e;intro h e;refine aj (c.get e) ?_;intro x hx rx;have hlt:i.toNat<vs.size:=(List.getElem?_eq_some_iff.mp hx).1;exact tail_any (T:="tuple") ⟨_,p,rfl⟩ slot_tuple_getitem.lookup (PyProof.Rows.getItem_tuple ⟨_,p,rfl,n,rfl⟩ (by lia) (by lia) (seqIndex_nonneg h.1 hlt) (getElem?_toList.symm.trans hx) (aD.here Am R (aM.refl _) rx)) nv
 | str x=>refine aA r.inv ?_;rintro tx rfl;refine bZ e ?_;clear e;intro h e;refine bW e ?_;rintro c hc rfl;have hlt:i.toNat<x.cps.size:=(Array.getElem?_eq_some_iff.mp hc).1;exact tail_any (typeIs_str s x tx) slot_str_getitem.lookup (PyProof.Rows.getItem_str (by simp;lia) (by rw [show seqIndex? i x.length=some i.toNat from seqIndex_nonneg h.1 hlt];exact hc) (aD.here Am R (aM.refl _) (.str _ _))) nv
 | lst=>exact lst e
 | loc=>exact lst e
 | _=>exact nn e
theorem aC.pick{ρ:aB}{h:Heap}{vs:List Value}{us:List V}(r:aC X ρ h vs us)(is:List Nat):aC X ρ h (is.filterMap (vs[·]?)) (is.filterMap (us[·]?)):=by
 induction is with
 | nil=>exact .nil
 | cons i is ih=>
  rw [filterMap_cons,filterMap_cons];cases hu:us[i]? with
  | none=>
   have:vs[i]?=none:=by rw [List.getElem?_eq_none_iff] at hu ⊢;rw [r.length];exact hu
   simp only [this];exact ih
  | some u=>refine aj (r.get hu) ?_;intro v hv rv;simp only [hv];exact .cons rv ih
theorem U7(items:Array Value)(lo hi st:Option Int):slicePick items lo hi st=(fE items.toList lo hi st).toArray:=by
 unfold slicePick fE;simp
theorem U9(Am:aq X s)(R:Rel X ρ σ s.heap){vl vu vk:Value}{lo hi st:Option Int}{sl:Addr}(r:VR X ρ s.heap v u)(hs:s.heap.IsSliceOf sl vl vu vk)
 (pl:IsPart vl lo) (pu:IsPart vu hi) (pk:IsPart vk st) (e:qw σ u lo hi st=some y) :
 wpAny (model P X.w) A (subscriptTail value slice v (.ref sl)) (aD X ρ s σ y) E s:=by
 refine aA (Ax slice v (.ref sl)) ?_;intro ops nv;refine aH e ?_;clear e;intro l hl e;refine bJ e ?_;rintro h rfl;refine bw (iL R r hl) ?_;rintro a vs rfl p q;have hlen:vs.size=l.length:=q.length;have hst:sizeLine=2^24:=rfl;refine tail_any p.is.typeIs slot_list_getitem.lookup (wpAny_getItem_list_slice p.is hs pl pu pk h.2 ?_ (by first|lia|(rw [hst];lia))) nv
 rw [U7];refine zL Am R ?_;unfold fE;rw [show vs.toList.length=l.length from hlen];exact q.pick _
end
noncomputable def j6(X:Ctx)(ρ:aB)(h:Heap)(kw:List (Str×Value))(key:Option V):Prop:=
 (kw=[]∧key=none)∨∃v u,kw=[(("key":Str),v)]∧key=some u∧VR X ρ h v u
structure bL(X:Ctx)(C:Calls)(k:Nat):Prop where
 call:∀{fv:V} {us:List V} {key:Option V} {σ:aa} {u:V} {σ':aa},C.call fv us key σ=some (u,σ')→∀{A:Around} {E:Value→Shared→Prop} {ρ:aB} {s:Shared} {f:Value} {vs:List Value} {kw:List (Str×Value)},
  aT k A→aq X s→Rel X ρ σ s.heap→(∀a∈ρ.priv,bX s.heap a)→VR X ρ s.heap f fv→aC X ρ s.heap vs us→j6 X ρ s.heap kw key→wpAny (model P X.w) A (call f vs kw) (aD X ρ s σ' u) E s
 glob:∀{x:Str} {u:V},C.glob x=some u→u.plain=true∧∀{env:Env} {A:Around} {E:Value→Shared→Prop} {ρ:aB} {s:Shared} {Q:Value→Shared→Prop},env.globals=mainGlobals→env.builtins=builtinsNs→aq X s→
  (∀v,VR X ρ s.heap v u→Q v s)→wpAny (model P X.w) A (loadGlobal env x) Q E s
 keep:∀{fv:V} {us:List V} {key:Option V} {σ:aa} {r:V×aa},C.call fv us key σ=some r→∀{ρ:aB} {s:Shared} {f:Value},aq X s→VR X ρ s.heap f fv→
  ∃kp,(kp=Keeper.frame∨kp=Keeper.machine∨kp=Keeper.boundFrame)∧Looks (model P X.w) s.heap (keeperOf f) kp
 res:∀{ov:V} {name:Str} {σ:aa} {fv:V},C.res ov name σ=some fv→∀{A:Around} {E:Value→Shared→Prop} {ρ:aB} {s:Shared} {v:Value} {pl:Sem Bool} {Q:Value×List Value→Shared→Prop},aq X s→Rel X ρ σ s.heap→VR X ρ s.heap v ov→
  (∀f t,VR X ρ s.heap f fv→Q (f,[v]) { s with toks:=t })→wpAny (model P X.w) A (getMethod v name pl) Q E s
 An:∀{ov:V} {name:Str} {σ:aa} {fv:V},C.res ov name σ=some fv→(∃id,fv=.bi id)∨(∃a,fv=.base a)
 lam:∀{me:ao} {e:Expr} {u:V},C.lam me e=some u→∀{env:Env} {A:Around} {E:Value→Shared→Prop} {ρ:aB} {σ:aa} {s:Shared},aT k A→aq X s→Rel X ρ σ s.heap→b5 X ρ env me s.heap→
  wpAny (model P X.w) A (eval e env) (aD X ρ s σ u) E s
end
section
variable{cl:Bool}{ρ:aB}{x:Addr→Prop}{h h':Heap}{σ:aa}{tgt:Expr}{it:Addr}{xs:List Addr}{us items:List V}
variable{X:Ctx}
structure Quiet(cl:Bool)(ρ:aB)(x:Addr→Prop)(h h':Heap):Prop where
 keep:∀a o,h.get? a=some o→¬x a→h'.get? a=some o
 size:h.objs.size≤h'.objs.size
 ge:∀a,x a→nB≤a
 fX:∀a,x a→a∉lp ρ.ah
 kind:∀a o,x a→h.get? a=some o→(¬tB true o∧∀ps,o≠tabObj ps)∨(a∈ρ.priv∧isSeq o)∨(cl=false∧∃v,o.data=.cell v)
theorem Quiet.mono(Q:Quiet cl ρ x h h'):bS cl ρ ρ h h' where
 keep:=fun a o e ha hv=>by
  refine Q.keep a o e fun hx=>?_;rcases Q.kind a o hx e with⟨k,_⟩|⟨k,_⟩|⟨rfl,v,hc⟩
  ·exact k (hv.imp id fun y=>⟨rfl,y.2⟩)
  ·exact ha (aI.mpr (.inr k))
  ·rcases hv with⟨xs,n,y⟩|⟨y,_⟩
   ·rw [hc] at y;cases y
   ·cases y
 pre:=prefix_refl _
 fresh:=fun a q n=>absurd q n
theorem TabOk.quiet(Q:Quiet cl ρ x h h'){T:Addr}{q:Str}(H:TabOk h T q):TabOk h' T q:=by
 refine bQ H.ok ?_;intro ps a b c;refine⟨ps,Q.keep _ _ a fun hx=>?_,b,fun pos cv e=>?_⟩
 ·rcases Q.kind _ _ hx a with⟨_,k⟩|⟨_,xs,n,k⟩|⟨_,v,k⟩
  ·exact k ps rfl
  ·cases k
  ·cases k
 ·refine iH (c pos cv e) ?_;intro cc co ws t e1 e2 e4 e5 e6;refine⟨cc,co,ws,t,e1,Q.keep _ _ e2 fun hx=>?_,e4,e5,e6⟩;rcases Q.kind _ _ hx e2 with⟨k,_⟩|⟨_,xs,n,k⟩|⟨_,v,k⟩
  ·exact k (.inr ⟨rfl,.inr (.inr ⟨_,_,_,e4,e5⟩)⟩)
  ·rw [e4] at k;cases k
  ·rw [e4] at k;cases k
theorem aq.quiet{s s':Shared}(A:aq X s)(hB:X.hB.objs.size≤nB)(Q:Quiet cl ρ x s.heap s'.heap)(ho:s'.os=s.os:=by rfl)(hg:s'.gens=s.gens:=by rfl):aq X s' where
 keep:=fun a o e t=>Q.keep a o (A.keep a o e t) fun hx=>absurd (Q.ge a hx) (not_le.mpr (lt_of_lt_of_le (lt_size e) hB))
 tab:=fun T q m=>(A.tab T q m).quiet Q
 os:=ho.trans A.os
 gens:=hg▸A.gens
 size:=le_trans A.size Q.size
 lim:=by refine aj A.lim ?_;intro mc hh;refine bG hh ?_;clear hh;intro o es ep e r;intro h;exact⟨mc,⟨o,es,ep,Q.keep _ _ e fun hx=>jt (Q.ge _ hx) rfl,r⟩,h⟩
theorem Rel.own(R:Rel X ρ σ h){a:Addr}(ha:a∈lp ρ.ah):∃o,h.get? a=some o:=by
 refine aj (dj.mp ha) ?_;intro p hp hpa;obtain⟨i,hi,rfl⟩:=getElem_of_mem hp;refine aj (R.get (getElem?_eq_getElem hi)) ?_;intro m _ om;generalize ρ.ah[i]=p at om hpa;cases om with
 | list x _ _=>refine aA x ?_;clear x;intro n e;rcases hpa with rfl|rfl<;>exact⟨_,e⟩
 | iter x _ _ _ _=>refine aj x ?_;clear x;intro o e _;rcases hpa with rfl|rfl<;>exact⟨o,e⟩
 | acc x _ _=>obtain⟨n,t,hh,kt,e1,e2⟩:=x;rcases hpa with rfl|rfl;exact⟨_,e1⟩;exact⟨_,e2⟩
theorem Rel.quiet(R:Rel X ρ σ h)(Q:Quiet cl ρ x h h'):Rel X ρ σ h':=by
 have M:bS false ρ ρ h h':=by cases cl with
  | true=>exact bS.weak Q.mono
  | false=>exact Q.mono
 refine R.mono M (fun a ha=>?_) Q.size;refine aA (R.own ha) ?_;intro o e;rw [e,Q.keep a o e fun hx=>Q.fX a hx ha]
theorem Step.quiet{ρ₀ ρ':aB}{h₀:Heap}(S:Step X ρ₀ ρ h₀ h)(Q:Quiet cl ρ' x h h')(hx:∀a,x a→h₀.objs.size≤a):Step X ρ₀ ρ h₀ h' where
 keep:=fun a o e t l=>Q.keep a o (S.keep a o e t l) fun z=>absurd (hx a z) (not_le.mpr (lt_size e))
 pre:=S.pre
 cI:=S.cI
 fresh:=S.fresh
 size:=le_trans S.size Q.size
inductive cz(X:Ctx)(ρ:aB)(h:Heap):List Addr→Addr→List V→Prop
 | list {it l:Addr} {i:Nat} {vs:Array Value} {us:List V}:h.IsListIter it l i→PL h l vs→l∉fp ρ→aC X ρ h (vs.toList.drop i) us→cz X ρ h [it] it us
 | tuple {it l:Addr} {i:Nat} {vs:Array Value} {us:List V}:h.IsTupleIter it l i→PT h l vs→l∉fp ρ→aC X ρ h (vs.toList.drop i) us→cz X ρ h [it] it us
 | range {it:Addr} {x:Int} {n:Nat}:IsRangeIter h it x n 1→cz X ρ h [it] it ((List.range n).map fun (i:Nat)=>V.int (x+i))
 | enum {it it' l:Addr} {i:Nat} {old:Value} {vs:Array Value} {us:List V}:IsEnum h it it' i old→h.IsListIter it' l i→PL h l vs→l∉fp ρ→it≠it'→aC X ρ h (vs.toList.drop i) us→
  cz X ρ h [it,it'] it ((us.zipIdx i).map fun (v,i)=>V.tup [.int (i:Int),v])
section
variable{A:Around}{E:Value→Shared→Prop}{s:Shared}{ρ:aB}{σ:aa}{k:Nat}
theorem zD{v:Value}{o:Obj}{T:String}{Q:Unit→Shared→Prop}(ho:s.heap.get? it=some o)(hc:o.cls=.type T)
 (hT:(["enumerate","zip","dict_itemiterator","dict_reverseitemiterator","odict_iterator","itertools.zip_longest","itertools.pairwise"]:List String).contains T=false) (h:Q () s) :
 wpAny (model P X.w) A (letOwnedTupleGo tgt (.ref it) v) Q E s:=by
 have main:wpAny (model P X.w) A (do
  let (.ref r,.ref a):=(Value.ref it,v)|return
  let o ←load r
  match o.cls,o.data with
  | .type n,.fields vs=>
   if (["enumerate","zip","dict_itemiterator","dict_reverseitemiterator","odict_iterator","itertools.zip_longest","itertools.pairwise"]:List String).contains n&&vs[0]?==some (rawInt a) then
    rule "for.unpacks-the-owned-tuple"
    updateField r 0 .none
  | _,_=>pure ():Sem Unit) Q E s:=by
  cases v with
  | ref a=>
   refine wpAny_bind (wpAny_load ho ?_);rw [hc];cases o.data with
   | fields vs=>dsimp only;rw [hT];exact wpAny_pure h
   | _=>exact wpAny_pure h
  | _=>exact wpAny_pure h
 cases tgt with
 | Tuple=>exact main
 | List=>exact main
 | _=>exact wpAny_pure h
theorem jl(I:cz X ρ h xs it us):∀a∈xs,∃o T vs,h.get? a=some o∧o.cls=.type T∧(∀q t,vs[1]?≠some (.str q t))∧o.data=.fields vs:=by
 cases I with
 | list a _ _ _=>refine bQ a ?_;clear a;intro o e c d;intro b hb;simp only [mem_singleton] at hb;subst hb;exact⟨o,_,_,e,c,by simp,d⟩
 | tuple a _ _ _=>refine bQ a ?_;clear a;intro o e c d;intro b hb;simp only [mem_singleton] at hb;subst hb;exact⟨o,_,_,e,c,by simp,d⟩
 | range a=>intro b hb;simp only [mem_singleton] at hb;subst hb;exact⟨_,_,_,a,rfl,by simp [rawInt],rfl⟩
 | enum a b _ _ _ _=>
  refine bQ b ?_;clear b;intro o e c d;intro b hb;simp only [mem_cons,not_mem_nil,or_false] at hb;rcases hb with rfl|rfl
  ·exact⟨_,_,_,a,rfl,by simp [rawInt],rfl⟩
  ·exact⟨o,_,_,e,c,by simp,d⟩
theorem lT(I:cz X ρ h xs it us)(hx:∀a∈xs,nB≤a∧a∉lp ρ.ah)(hk:∀a o,h.get? a=some o→a∉xs→h'.get? a=some o)(hs:h.objs.size≤h'.objs.size) :
 Quiet true ρ (·∈xs) h h' where
 keep:=hk
 size:=hs
 ge:=fun a ha=>(hx a ha).1
 fX:=fun a ha=>(hx a ha).2
 kind:=fun a o ha e=>by
  refine cY (jl I a ha) ?_;intro o' T vs e' c hT d;obtain rfl:o=o':=Option.some.inj (e.symm.trans e');refine .inl ⟨fun hv=>?_,fun ps hp=>?_⟩
  ·rcases hv with⟨ys,n,y⟩|⟨_,⟨fd,y⟩|⟨v,y⟩|⟨ws,q,t,y,z⟩⟩
   ·rw [d] at y;cases y
   ·rw [d] at y;cases y
   ·rw [d] at y;cases y
   ·rw [d] at y;cases y;exact hT q t z
  ·rw [hp] at c;cases c
set_option tactic.hygienic true in
theorem next_item{u:V}{Q:Value→Shared→Prop}(R:Rel X ρ σ s.heap)(I:cz X ρ s.heap xs it items)(hi:items=u::us)
 (hx:∀a∈xs,nB≤a∧a∉lp ρ.ah) (ht:xs.length=1∨ez tgt=true)
 (H:∀v s',Quiet true ρ (·∈xs) s.heap s'.heap→s'.os=s.os→s'.gens=s.gens→VR X ρ s'.heap v u→cz X ρ s'.heap xs it us→Q v s') :
 wpAny (model P X.w) A (pyNext (.ref it)) (fun r s₁=>∃v,r=some v∧wpAny (model P X.w) A (letOwnedTupleGo tgt (.ref it) v) (fun Z s₂=>Q v s₂) E s₁) E s:=by
 have I₀:=I;cases I with
 | list a b c d=>
  subst hi;rename_i l i vs;refine bQ d.tH ?_;intro x hxi rx rr;refine wpAny_pyNext_list_item a b.is hxi fun h' a' sb=>⟨x,rfl,?_⟩;have Qt:Quiet true ρ (·∈[it]) s.heap h':=lT I₀ hx (fun a o e hn=>(sb.2 a (by simpa using hn)).trans e) (le_of_eq sb.1.symm)
  refine bQ (id a') ?_;intro o e cc dd;refine zD e cc (by decide) (H x _ Qt rfl rfl (rx.mono Qt.mono (.inl rfl)) (.list a' (Qt.mono.list b c).1 c (rr.mono Qt.mono (.inl rfl))))
 | tuple a b c d=>
  subst hi;rename_i l i vs;refine bQ d.tH ?_;intro x hxi rx rr;refine wpAny_pyNext_tuple_item a b.is hxi fun h' a' sb=>⟨x,rfl,?_⟩;have Qt:Quiet true ρ (·∈[it]) s.heap h':=lT I₀ hx (fun a o e hn=>(sb.2 a (by simpa using hn)).trans e) (le_of_eq sb.1.symm)
  refine bQ (id a') ?_;intro o e cc dd;refine zD e cc (by decide) (H x _ Qt rfl rfl (rx.mono Qt.mono (.inl rfl)) (.tuple a' (Qt.mono.tuple b c).1 c (rr.mono Qt.mono (.inl rfl))))
 | range a=>
  rename_i x n;cases n with
  | zero=>simp at hi
  | succ n=>
   rw [List.range_succ_eq_map,map_cons,map_map] at hi;injection hi with h1 h2
   refine wpAny_pyNext_range_item a (by lia) fun h' a' sb=>⟨_,rfl,?_⟩
   have Qt:Quiet true ρ (·∈[it]) s.heap h':=lT I₀ hx (fun a o e hn=>(sb.2 a (by simpa using hn)).trans e) (le_of_eq sb.1.symm)
   refine zD a' rfl (by decide) (H _ _ Qt rfl rfl ?_ ?_)
   ·rw [←h1];simp only [Int.ofNat_zero,Int.add_zero];exact .int _ _
   ·have e2:us=(List.range n).map fun (i:Nat)=>V.int ((x+1)+i):=by
     rw [←h2];apply List.map_congr_left;intro i _;simp only [Function.comp];congr 1;lia
    rw [e2];have:((n+1:Nat):Int) - 1=(n:Int):=by lia
    rw [this] at a';exact .range a'
 | enum a b c d e f=>
  rename_i it' l i old vs us';cases us' with
  | nil=>simp at hi
  | cons u' us'=>
   rw [zipIdx_cons,map_cons] at hi;injection hi with h1 h2
   refine bQ f.tH ?_;intro y hy ry rr;have OP:ez tgt=true:=by rcases ht with h|h;simp at h;exact h
   refine aA (isSome_iff_exists.mp OP) ?_;intro elts hts;refine fq (AL hts) ?_;rintro c1 pos rfl;refine wpAny_pyNext_enum_item a b c.is hy e fun h' q1 q2 q3 q4 q5=>⟨_,rfl,?_⟩;refine wpAny_letOwnedTupleGo_enum q1 fun h'' q6 sb=>?_;have hne:s.heap.objs.size≠it:=fun z=>by rw [←z] at a;exact absurd (lt_size a) (lt_irrefl _)
   have Qt:Quiet true ρ (·∈[it,it']) s.heap h'':=lT I₀ hx (fun b o e hn=>by
    simp only [mem_cons,not_mem_nil,or_false,not_or] at hn;exact (sb.2 b hn.1).trans (q5 b o hn.1 hn.2 e)) (by rw [sb.1,q4];exact le_succ _)
   have rE:h''.IsListIter it' l (i+1):=by
    refine aj q2 ?_;clear q2;intro o e1 e2;exact⟨o,(sb.2 it' (Ne.symm e)).trans e1,e2⟩
   refine H _ _ Qt rfl rfl ?_ ?_
   ·rw [←h1];refine .tup ⟨0,(sb.2 _ hne).trans q3⟩ (fun hm=>lt_irrefl _ (R.lt _ hm)) ?_;exact .cons (.int _ _) (.cons (ry.mono Qt.mono (.inl rfl)) .nil)
   ·rw [←h2];exact .enum (i:=i+1) q6 rE (Qt.mono.list c d).1 d e (rr.mono Qt.mono (.inl rfl))
set_option tactic.hygienic true in
theorem next_end{Q:Option Value→Shared→Prop}(hh:A.handled=none)(I:cz X ρ s.heap xs it items)(hi:items=[])
 (hx:∀a∈xs,nB≤a∧a∉lp ρ.ah) (H:∀s',Quiet true ρ (·∈xs) s.heap s'.heap→s'.os=s.os→s'.gens=s.gens→Q none s') :
 wpAny (model P X.w) A (pyNext (.ref it)) Q E s:=by
 have I₀:=I;have seq:∀{vs:Array Value} {i:Nat} {us:List V},aC X ρ s.heap (vs.toList.drop i) us→us=[]→vs[i]?=none:=by
  intro vs i us r e;subst e;have:(vs.toList.drop i).length=0:=r.length;rw [length_drop] at this;rw [Array.getElem?_eq_none_iff];simpa using Nat.le_of_sub_eq_zero this
 cases I with
 | list a b c d=>
  refine mR (le_refl _) (wpAny_mono (wpAny_pyNext_list_end (Q:=fun r s'=>r=none∧∃h',ExtBut it s.heap h'∧s'={ s with heap:=h' }) (E:=fun Z Z=>False) hh a b.is (seq d hi) fun h' eb=>⟨rfl,h',eb,rfl⟩) ?_ fun Z Z e=>e.elim)
  intro r s' hh;obtain⟨rfl,h',eb,rfl⟩:=hh;intro hs;exact H _ (lT I₀ hx (fun a o e hn=>eb a o (by simpa using hn) e) hs) rfl rfl
 | tuple a b c d=>
  refine mR (le_refl _) (wpAny_mono (wpAny_pyNext_tuple_end (Q:=fun r s'=>r=none∧∃h',ExtBut it s.heap h'∧s'={ s with heap:=h' }) (E:=fun Z Z=>False) hh a b.is (seq d hi) fun h' eb=>⟨rfl,h',eb,rfl⟩) ?_ fun Z Z e=>e.elim)
  intro r s' hh;obtain⟨rfl,h',eb,rfl⟩:=hh;intro hs;exact H _ (lT I₀ hx (fun a o e hn=>eb a o (by simpa using hn) e) hs) rfl rfl
 | range a=>
  rename_i x n;have hn:n=0:=by cases n with|zero=>rfl|succ n=>simp [List.range_succ_eq_map] at hi
  subst hn;refine mR (le_refl _) (wpAny_mono (wpAny_pyNext_range_end (Q:=fun r s'=>r=none∧∃h',ExtBut it s.heap h'∧s'={ s with heap:=h' }) (E:=fun Z Z=>False) hh a (by lia) fun h' eb=>⟨rfl,h',eb,rfl⟩) ?_ fun Z Z e=>e.elim)
  intro r s' hh;obtain⟨rfl,h',eb,rfl⟩:=hh;intro hs;exact H _ (lT I₀ hx (fun a o e hn=>eb a o (by simpa using hn) e) hs) rfl rfl
 | enum a b c d e f=>
  rename_i it' l i old vs us';have hu:us'=[]:=by cases us' with|nil=>rfl|cons u r=>simp [zipIdx_cons] at hi
  refine mR (le_refl _) (wpAny_mono (wpAny_pyNext_enum_end (Q:=fun r s'=>r=none∧∃h',ExtBut it' s.heap h'∧s'={ s with heap:=h' }) (E:=fun Z Z=>False) hh a b c.is (seq f hu) fun h' eb=>⟨rfl,h',eb,rfl⟩) ?_ fun Z Z e=>e.elim)
  intro r s' hh;obtain⟨rfl,h',eb,rfl⟩:=hh;intro hs;exact H _ (lT I₀ hx (fun a o e hn=>eb a o (fun z=>hn (by rw [z];simp)) e) hs) rfl rfl
end
end
section
variable{e:Expr}{r:List Expr}{env:Env}{pos:Pos}{ev:ao→Expr→aa→Option (V×aa)}{me:ao}{σ:aa}{ρ:aB}{s s₁:Shared}{ah:List (Addr×Addr)}{vs:List Value}{us:List V}
variable{X:Ctx}
noncomputable def dg(X:Ctx)(C:Calls)(k n:Nat):Prop:=∀{me:ao} {e:Expr} {σ:aa} {u:V} {σ':aa},ak C n me e σ=some (u,σ')→∀{env:Env} {A:Around} {E:Value→Shared→Prop} {ρ:aB} {s:Shared},
 aT k A→aq X s→Rel X ρ σ s.heap→b5 X ρ env me s.heap→wpAny (model P X.w) A (eval e env) (aD X ρ s σ' u) E s
noncomputable def gO(X:Ctx)(C:Calls)(k n:Nat):Prop:=∀{me:ao} {e:Expr} {σ:aa} {b:Bool} {σ':aa},aX C n me e σ=some (b,σ')→∀{env:Env} {A:Around} {E:Value→Shared→Prop} {ρ:aB} {s:Shared},
 aT k A→aq X s→Rel X ρ σ s.heap→b5 X ρ env me s.heap→wpAny (model P X.w) A (isTrue e env (eval e env)) (fK X ρ s σ' b) E s
theorem iT(h:∀x p,e≠.Starred x p):starEach (e::r) env=(false,eval e env)::starEach r env:=by
 cases e<;>first|rfl|exact absurd rfl (h _ _)
theorem iB{t:Sem Value}{l:List (Bool×Sem Value)}:backTo pos ((false,t)::l)=(false,t)::backTo pos l:=rfl
theorem pq{z:List V×aa}(h:b7 ev me (e::r) σ=some z) :
 (∀x p,e≠.Starred x p)∧∃v σ₁ vs σ₂,ev me e σ=some (v,σ₁)∧b7 ev me r σ₁=some (vs,σ₂)∧z=(v::vs,σ₂):=by
 refine zg h ?_;intro hn h';refine⟨fun x p z=>hn (z▸rfl),?_⟩;refine aY h' ?_;intro v σ₁ e1 h';refine jS h' ?_;rintro vs σ₂ e2 rfl;exact⟨v,σ₁,vs,σ₂,e1,e2,rfl⟩
theorem vn:∀{as:List Expr} {σ:aa} {z:List V×aa},b7 ev me as σ=some z→(backTo pos (starEach as env)).any (·.1)=false:=by
 intro as
 induction as with
 | nil=>intro _ _ _;exact rfl
 | cons e r rc=>intro σ z h;obtain⟨h1,v,σ₁,vs,σ₂,e1,e2,_⟩:=pq h;rw [iT h1,iB,List.any_cons,rc e2];rfl
section
variable{C:Calls}{k n:Nat}
theorem qX(IH:dg X C k n):∀{as:List Expr} {me:ao} {σ:aa} {us:List V} {σ':aa},b7 (ak C n) me as σ=some (us,σ')→∀{env:Env} {pos:Pos} {A:Around} {E:Value→Shared→Prop} {ρ:aB} {s:Shared},
 aT k A→aq X s→Rel X ρ σ s.heap→b5 X ρ env me s.heap→wpAny (model P X.w) A (spliced (backTo pos (starEach as env))) (wO X ρ s σ' us) E s:=by
 intro as
 induction as with
 | nil=>intro me σ us σ' h env pos A E ρ s Rm Am R H;refine au (fT h) ?_;rintro rfl rfl;exact spliced_nil ⟨ρ.ah,Step.refl _ _,Am,R,.nil⟩
 | cons e r ih=>intro me σ us σ' h env pos A E ρ s Rm Am R H;obtain⟨h1,v,σ₁,vs,σ₂,e1,e2,e3⟩:=pq h;refine au (Prod.mk.inj e3) ?_;rintro rfl rfl;rw [iT h1,iB];refine spliced_cons (wm (IH e1 Rm Am R H) (fun w s₁ hw=>?_));obtain⟨ah,S,aQ,R₁,rv⟩:=hw;refine wm (ih e2 Rm aQ R₁ (H.step Am R S rfl)) (fun ws s₂ hw=>?_);obtain⟨aO,S',cX,R₂,rs⟩:=hw;exact⟨aO,S.trans S',cX,R₂,.cons (rv.step aQ S') rs⟩
theorem gW(CO:bL X C k){x:Str}{u:V}(h:cy C me x=some u){A:Around}{E:Value→Shared→Prop}{Q:Value→Shared→Prop}
 (Am:aq X s) (H:b5 X ρ env me s.heap) (hQ:∀v,VR X ρ s.heap v u→Q v s):wpAny (model P X.w) A (loadName env x) Q E s∧wpAny (model P X.w) A (eval (.Name x pos) env) Q E s:=by
 unfold cy at h;refine zg h ?_;clear h;intro hd h
 ·simp only [or_eq_true,not_or,Bool.not_eq_true] at hd;have main:wpAny (model P X.w) A (loadName env x) Q E s:=by
   rcases cJ h with⟨hv,h⟩|⟨_,h⟩
   ·cases hk:me.names.lookup x with
    | none=>rw [hk] at hv;cases hv
    | some kd=>
     rw [hk] at hv;rcases H.names x kd hk with hn|⟨rfl,hn⟩
     ·cases kd<;>first|cases hv|skip
      ·refine aj H.loc ?_;intro m hm hl;refine aj (hl x u hk h) ?_;intro v h1 h2;exact wpAny_loadName_local H.kind hn hm h1 (hQ v h2)
      ·refine bV (H.cell x _ hk (.inl rfl)) ?_;intro c ov h1 h2 h3 h4;refine aj (h4 u h) ?_;rintro v rfl h6;exact wpAny_loadName_cell H.kind hn h1 h3 (hQ v h6)
      ·refine bV (H.cell x _ hk (.inr rfl)) ?_;intro c ov h1 h2 h3 h4;refine aj (h4 u h) ?_;rintro v rfl h6;exact wpAny_loadName_free H.kind hn h1 h3 (hQ v h6) hd.2
     ·refine bV (H.cell x _ hk (.inr rfl)) ?_;intro c ov h1 h2 h3 h4;refine aj (h4 u h) ?_;rintro v rfl h6;exact wpAny_loadName_cell H.kind hn h1 h3 (hQ v h6)
   ·refine bZ h ?_;clear h;intro hg h
    ·have hn:env.kindOf x=some .globalImplicit:=by
      rcases H.names x _ hg with hn|⟨hf,_⟩
      ·exact hn
      ·cases hf
     exact ks_loadName_global H.kind hn ((CO.glob h).2 H.globals H.builtins Am hQ)
  exact⟨main,wpAny_Name main hd.1⟩
theorem Rk(S:Step X ρ ⟨ah,ρ.priv⟩ s.heap s₁.heap)(Am:aq X s₁)(R:Rel X ⟨ah,ρ.priv⟩ σ s₁.heap)(r:aC X ⟨ah,ρ.priv⟩ s₁.heap vs us) :
 aD X ρ s σ (.lst us) (.ref s₁.heap.objs.size) { s₁ with heap:=s₁.heap.push { cls:=.type "list",data:=.seq vs.toArray } }:=by
 have G:=aM.push s₁.heap { cls:=.type "list",data:=.seq vs.toArray };refine aD.after S (aD.here Am R G (.lst ⟨0,get?_push_size _ rfl⟩ (fun hm=>lt_irrefl _ (R.lt _ hm)) ?_));exact r.step Am (G.step _)
theorem Rl(S:Step X ρ ⟨ah,ρ.priv⟩ s.heap s₁.heap)(Am:aq X s₁)(R:Rel X ⟨ah,ρ.priv⟩ σ s₁.heap)(r:aC X ⟨ah,ρ.priv⟩ s₁.heap vs us) :
 aD X ρ s σ (.tup us) (.ref s₁.heap.objs.size) { s₁ with heap:=s₁.heap.push { cls:=.type "tuple",data:=.seq vs.toArray } }:=by
 have G:=aM.push s₁.heap { cls:=.type "tuple",data:=.seq vs.toArray };refine aD.after S (aD.here Am R G (.tup ⟨0,get?_push_size _ rfl⟩ (fun hm=>lt_irrefl _ (R.lt _ hm)) ?_));exact r.step Am (G.step _)
theorem Ir(IT:gO X C k n):∀{es:List Expr} {op:BoolOp} {me:ao} {σ:aa} {b:Bool} {σ':aa},gP (aX C n) me op es σ=some (b,σ')→∀{env:Env} {A:Around} {E:Value→Shared→Prop} {ρ:aB} {s:Shared},
 aT k A→aq X s→Rel X ρ σ s.heap→b5 X ρ env me s.heap→wpAny (model P X.w) A (allTrue op es env) (fK X ρ s σ' b) E s:=by
 intro es
 induction es with
 | nil=>
  intro op me σ b σ' h env A E ρ s Rm Am R H;refine au (fT h) ?_;rintro rfl rfl;cases op with
  | And=>exact wpAny_allTrue_And_nil ⟨ρ.ah,Step.refl _ _,Am,R,rfl⟩
  | Or=>exact wpAny_allTrue_Or_nil ⟨ρ.ah,Step.refl _ _,Am,R,rfl⟩
 | cons e r ih=>
  intro op me σ b σ' h env A E ρ s Rm Am R H;refine aY h ?_;intro c σ₁ e1 h;cases op with
  | And=>
   refine wpAny_allTrue_And_cons (wm (IT e1 Rm Am R H) (fun c' s₁ hc=>?_));obtain⟨ah,S,aQ,R₁,rfl⟩:=hc;cases c' with
   | true=>exact wm (ih h Rm aQ R₁ (H.step Am R S rfl)) (fun Z Z x=>x.after S)
   | false=>refine au (fT h) ?_;rintro rfl rfl;exact⟨ah,S,aQ,R₁,rfl⟩
  | Or=>
   refine wpAny_allTrue_Or_cons (wm (IT e1 Rm Am R H) (fun c' s₁ hc=>?_));obtain⟨ah,S,aQ,R₁,rfl⟩:=hc;cases c' with
   | false=>exact wm (ih h Rm aQ R₁ (H.step Am R S rfl)) (fun Z Z x=>x.after S)
   | true=>refine au (fT h) ?_;rintro rfl rfl;exact⟨ah,S,aQ,R₁,rfl⟩
theorem Kn(IH:dg X C k n):∀{es:List Expr} {op:BoolOp} {pos:Pos} {me:ao} {σ:aa} {u:V} {σ':aa},xA (ak C n) me op es σ=some (u,σ')→∀{env:Env} {A:Around} {E:Value→Shared→Prop} {ρ:aB} {s:Shared},
 aT k A→aq X s→Rel X ρ σ s.heap→b5 X ρ env me s.heap→wpAny (model P X.w) A (boolOp pos op (evalEach es env)) (aD X ρ s σ' u) E s:=by
 intro es
 induction es with
 | nil=>intro _ _ _ _ _ _ h;exact nn h
 | cons e r ih=>
  intro op pos me σ u σ' h env A E ρ s Rm Am R H;cases r with
  | nil=>exact IH h Rm Am R H
  | cons e' r=>
   refine aY h ?_;intro v σ₁ e1 h;refine aH h ?_;intro b e2 h;show wpAny _ A (eval e env>>=fun v=>standAt pos>>=fun Z=>holding [v] (truthy v)>>=fun t=>(match op,t with
    | .And,false=>pure v
    | .Or,true=>pure v
    | _,_=>boolOp pos op (evalEach (e'::r) env))) _ E s
   refine wpAny_bind (wm (IH e1 Rm Am R H) (fun w s₁ hw=>?_));obtain⟨ah,S,aQ,R₁,rv⟩:=hw;refine wpAny_bind (wpAny_standAt (wpAny_bind (wpAny_holding (wm (AK aQ R₁ rv e2) (fun c s₂ hc=>?_)))));obtain⟨aO,S',cX,R₂,rfl⟩:=hc;have H₂:=(H.step Am R S rfl).step aQ R₁ S' rfl;cases op with
   | And=>
    cases c with
    | true=>exact wm (ih h Rm cX R₂ H₂) (fun Z Z x=>(x.after S').after S)
    | false=>refine au (fT h) ?_;rintro rfl rfl;exact wpAny_pure ⟨aO,S.trans S',cX,R₂,rv.step aQ S'⟩
   | Or=>
    cases c with
    | false=>exact wm (ih h Rm cX R₂ H₂) (fun Z Z x=>(x.after S').after S)
    | true=>refine au (fT h) ?_;rintro rfl rfl;exact wpAny_pure ⟨aO,S.trans S',cX,R₂,rv.step aQ S'⟩
end
end
section
variable{pos pos' kp:Pos}{f:Value}{first:List Value}{A:Around}{E:Value→Shared→Prop}{s:Shared}{as:List Expr}{me:ao}{σ σ₁ σ₂ σ₃:aa}{us:List V}{u fv kv:V}{env:Env}{ρ:aB}{ke o:Expr}{nm:Str}
variable{X:Ctx}{C:Calls}{k n:Nat}
theorem mV{X:Ctx}{args:List (Bool×Sem Value)}{keywords:List (Option Str×Sem Value)}{Q:Value→Shared→Prop}
 (hplain:(args.any (·.1)||keywords.any (·.1.isNone))=false)
 (h:wpAny (model P X.w) A (evalArgs f true args keywords) (fun a s₁=>(∃kp,(kp=Keeper.frame∨kp=Keeper.machine∨kp=Keeper.boundFrame)∧Looks (model P X.w) s₁.heap (keeperOf f) kp)∧wpAny (model P X.w) A (call f (first++a.pos) a.kw) Q E s₁) E s) :
 wpAny (model P X.w) A (callWith pos f first args keywords) Q E s:=
 callWith_of (P:=fun h=>∃kp,(kp=Keeper.frame∨kp=Keeper.machine∨kp=Keeper.boundFrame)∧Looks (model P X.w) h (keeperOf f) kp) hplain (fun Z x=>x) h
theorem BB(IH:dg X C k n)(CO:bL X C k){uw:List V}
 (h1:b7 (ak C n) me as σ=some (us,σ₁)) (h2:C.call fv (uw++us) none σ₁=some (u,σ₂))        
 (Rm:aT k A) (Am:aq X s) (R:Rel X ρ σ s.heap) (H:b5 X ρ env me s.heap) (rf:VR X ρ s.heap f fv) (rs:aC X ρ s.heap first uw) :
 wpAny (model P X.w) A (callWith pos' f first (backTo pos (starEach as env)) []) (aD X ρ s σ₂ u) E s:=by
 refine mV (by rw [vn h1];rfl) ?_
 have core:wpAny (model P X.w) A (spliced (backTo pos (starEach as env))) (fun vs s₁=>(∃kp,(kp=Keeper.frame∨kp=Keeper.machine∨kp=Keeper.boundFrame)∧Looks (model P X.w) s₁.heap (keeperOf f) kp)∧
  wpAny (model P X.w) A (call f (first++vs) []) (aD X ρ s σ₂ u) E s₁) E s:=by
  refine wm (qX IH h1 Rm Am R H) (fun vs s₁ hv=>?_);obtain⟨ah,S,aQ,R₁,rv⟩:=hv;refine⟨CO.keep h2 aQ (rf.step Am S),?_⟩;exact wm (CO.call h2 Rm aQ R₁ (H.step Am R S rfl).pv (rf.step Am S) ((rs.step Am S).append rv) (.inl ⟨rfl,rfl⟩)) (fun Z Z x=>x.after S)
 cases as with
 | nil=>
  refine evalArgs_nil3 ?_;have:wpAny (model P X.w) A (pure []:Sem (List Value)) (fun vs s₁=>(∃kp,(kp=Keeper.frame∨kp=Keeper.machine∨kp=Keeper.boundFrame)∧Looks (model P X.w) s₁.heap (keeperOf f) kp)∧
   wpAny (model P X.w) A (call f (first++vs) []) (aD X ρ s σ₂ u) E s₁) E s:=core
  refine au (fT h1) ?_;rintro rfl rfl;refine⟨CO.keep h2 Am rf,?_⟩;exact CO.call h2 Rm Am R H.pv rf (rs.append .nil) (.inl ⟨rfl,rfl⟩)
 | cons e r=>have kh:=(pq h1).1;rw [iT kh,iB] at core ⊢;exact evalArgs_plain core
theorem IL(IH:dg X C k n)(CO:bL X C k){e₀:Expr}
 (h1:b7 (ak C n) me (e₀::as) σ=some (us,σ₁)) (hk:ak C n me ke σ₁=some (kv,σ₂)) (h2:C.call fv us (some kv) σ₂=some (u,σ₃))       
 (Rm:aT k A) (Am:aq X s) (R:Rel X ρ σ s.heap) (H:b5 X ρ env me s.heap) (rf:VR X ρ s.heap f fv) :
 wpAny (model P X.w) A (callWith pos' f [] (backTo pos (starEach (e₀::as) env)) (backToKw pos (keywordEach [⟨some ("key":Str),ke,kp⟩] env))) (aD X ρ s σ₃ u) E s:=by
 refine mV (by rw [vn h1];rfl) ?_
 have kh:=(pq h1).1;have core:wpAny (model P X.w) A (spliced (backTo pos (starEach (e₀::as) env))) (fun vs s₁=>wpAny (model P X.w) A (evalAll ((backToKw pos (keywordEach [⟨some ("key":Str),ke,kp⟩] env)).map (·.2)))
  (fun ks s₂=>(∃kp,(kp=Keeper.frame∨kp=Keeper.machine∨kp=Keeper.boundFrame)∧Looks (model P X.w) s₂.heap (keeperOf f) kp)∧
  wpAny (model P X.w) A (call f ([]++vs) (((backToKw pos (keywordEach [⟨some ("key":Str),ke,kp⟩] env)).filterMap (·.1)).zip ks)) (aD X ρ s σ₃ u) E s₂) E s₁) E s:=by
  refine wm (qX IH h1 Rm Am R H) (fun vs s₁ hv=>?_);obtain⟨ah,S,aQ,R₁,rv⟩:=hv;have H₁:=H.step Am R S rfl;show wpAny _ A (evalAll [do let v ←eval ke env;standAt pos;pure v]) _ E s₁
  refine wpAny_evalAll_cons (wpAny_bind (wm (IH hk Rm aQ R₁ H₁) (fun w s₂ hw=>?_)));obtain⟨aO,S',cX,R₂,rk⟩:=hw;refine wpAny_bind (wpAny_standAt (wpAny_pure (wpAny_evalAll_nil ?_)));have GK:=(rf.step Am S).step aQ S';refine⟨CO.keep h2 cX GK,?_⟩;refine wm (CO.call h2 Rm cX R₂ (H₁.step aQ R₁ S' rfl).pv GK (rv.step aQ S') (.inr ⟨w,kv,rfl,rfl,rk⟩)) (fun Z Z x=>(x.after S').after S)
 rw [iT kh,iB] at core ⊢;exact evalArgs_kw rfl core
theorem oY{f:Expr}{kws:List Keyword}(h:∀o nm p,f≠.Attribute o nm p) :
 eval (.Call f as kws pos) env=(do callWith pos (←eval f env) [] (backTo pos (starEach as env)) (backToKw pos (keywordEach kws env))):=by
 cases f<;>first|rfl|exact absurd rfl (h _ _ _)
theorem KN(IH:dg X C k n)(CO:bL X C k){f:Expr}(hf:∀o nm p,f≠.Attribute o nm p)
 (h0:ak C n me f σ=some (fv,σ₁)) (h1:b7 (ak C n) me as σ₁=some (us,σ₂)) (h2:C.call fv us none σ₂=some (u,σ₃))     
 (Rm:aT k A) (Am:aq X s) (R:Rel X ρ σ s.heap) (H:b5 X ρ env me s.heap):wpAny (model P X.w) A (eval (.Call f as [] pos) env) (aD X ρ s σ₃ u) E s:=by
 rw [oY hf];refine wpAny_bind (wm (IH h0 Rm Am R H) (fun w s₁ hw=>?_));obtain⟨ah,S,aQ,R₁,rv⟩:=hw;exact wm (BB IH CO (uw:=[]) h1 h2 Rm aQ R₁ (H.step Am R S rfl) rv .nil) (fun Z Z x=>x.after S)
theorem KJ(IH:dg X C k n)(CO:bL X C k){f:Expr}{σ₄:aa}(hf:∀o nm p,f≠.Attribute o nm p)(has:as≠[])
 (h0:ak C n me f σ=some (fv,σ₁)) (h1:b7 (ak C n) me as σ₁=some (us,σ₂)) (hk:ak C n me ke σ₂=some (kv,σ₃)) (h2:C.call fv us (some kv) σ₃=some (u,σ₄))     
 (Rm:aT k A) (Am:aq X s) (R:Rel X ρ σ s.heap) (H:b5 X ρ env me s.heap):wpAny (model P X.w) A (eval (.Call f as [⟨some ("key":Str),ke,kp⟩] pos) env) (aD X ρ s σ₄ u) E s:=by
 rw [oY hf];refine wpAny_bind (wm (IH h0 Rm Am R H) (fun w s₁ hw=>?_));obtain⟨ah,S,aQ,R₁,rv⟩:=hw;cases as with
 | nil=>exact absurd rfl has
 | cons e₀ as=>exact wm (IL IH CO h1 hk h2 Rm aQ R₁ (H.step Am R S rfl) rv) (fun Z Z x=>x.after S)
theorem base_eq{t:Sem Value}(h:l7 o=true):attributeBase o nm env t=t:=by
 cases o with
 | Call f as kws p=>cases f with
  | Name=>cases as with
   | nil=>cases kws with
    | nil=>exact ff h
    | cons=>rfl
   | cons=>rfl
  | _=>rfl
 | _=>rfl
theorem Mx(h1:(backTo pos (starEach as env)).any (·.1)=false)(h2:as.length<29):methodCallForm (as.length+([]:List Keyword).length) (backTo pos (starEach as env)) (backToKw pos (keywordEach [] env))=true:=by
 have:(backTo pos (starEach as env)).all (fun x=>!x.1)=true:=by
  rw [all_eq_true];intro x hx;rw [List.any_eq_false] at h1;simpa using h1 x hx
 unfold methodCallForm;rw [this];have h3:as.length+0+0<30:=lt_trans h2 (by decide)
 exact (decide_eq_true h3:_)
theorem RN(IH:dg X C k n)(CO:bL X C k){ap:Pos}{ov:V}(hb:l7 o=true)(hl:(ap.endLine==pos.line)=true)(hn:as.length<29)
 (h0:ak C n me o σ=some (ov,σ₁)) (hr:C.res ov nm σ₁=some fv) (h1:b7 (ak C n) me as σ₁=some (us,σ₂)) (h2:C.call fv (ov::us) none σ₂=some (u,σ₃))     
 (Rm:aT k A) (Am:aq X s) (R:Rel X ρ σ s.heap) (H:b5 X ρ env me s.heap):wpAny (model P X.w) A (eval (.Call (.Attribute o nm ap) as [] pos) env) (aD X ρ s σ₃ u) E s:=by
 show wpAny _ A (do
  let ov ←attributeBase o nm env (eval o env)
  standAt ap.atName
  methodCall o nm ap pos env ov (as.length+([]:List Keyword).length) (backTo pos (starEach as env)) (backToKw pos (keywordEach [] env))) _ E s
 rw [base_eq hb];refine wpAny_bind (wm (IH h0 Rm Am R H) (fun w s₁ hw=>?_));obtain⟨ah,S,aQ,R₁,rv⟩:=hw;refine wpAny_bind (wpAny_standAt ?_);unfold methodCall;rw [Mx (vn h1) hn];show wpAny _ A (holding [w] (getMethod w nm (do return (←importBound o env).getD true))>>=fun x=>methodCallPos true o env ap pos>>=fun qR=>callWith qR x.1 x.2 (backTo pos (starEach as env)) (backToKw pos (keywordEach [] env))) _ E s₁
 refine wpAny_bind (wpAny_holding (CO.res hr aQ R₁ rv fun f t rf=>?_));have hp:methodCallPos true o env ap pos=pure pos:=by
  unfold methodCallPos;exact if_pos (by rw [hl];rfl)
 rw [hp];refine wpAny_bind (wpAny_pure ?_);have cX:aq X ({ s₁ with toks:=t }:Shared):=aQ.grown (aM.refl _)
 exact wm (BB IH CO (uw:=[ov]) h1 h2 (s:={ s₁ with toks:=t }) Rm cX R₁ (H.step Am R S rfl) rf (.cons rv .nil)) (fun Z Z x=>x.after (s₁:={ s₁ with toks:=t }) S)
end
section
variable{y x:Addr→Prop}{ρ ρ' ρ₀:aB}{h h' h₀:Heap}{me az:ao}{u:V}{A:Around}{E:Value→Shared→Prop}{env:Env}{σ:aa}{s s':Shared}{v:Value}{Q:Unit→Shared→Prop}{t:Expr}
variable{X:Ctx}{C:Calls}{k n:Nat}
structure bI(X:Ctx):Prop where
 size:X.hB.objs.size≤nB
structure FK(X:Ctx)(y:Addr→Prop)(l l':List (Addr×Addr))(h h':Heap):Prop where
 keep:∀a o,h.get? a=some o→¬X.tab a→a∉lp l→¬y a→h'.get? a=some o
 pre:l <+: l'
 cI:∀a∈lp l',a∉lp l→h.objs.size≤a
 size:h.objs.size≤h'.objs.size
theorem FK.refl(l:List (Addr×Addr))(h:Heap):FK X y l l h h:=⟨fun Z Z e Z Z Z=>e,prefix_refl _,fun Z q n=>absurd q n,le_refl _⟩
theorem FK.trans{l₁ l₂ l₃:List (Addr×Addr)}{h₁ h₂ h₃:Heap}(a:FK X y l₁ l₂ h₁ h₂)(b:FK X y l₂ l₃ h₂ h₃):FK X y l₁ l₃ h₁ h₃ where
 keep:=fun x o e ht hx hy=>b.keep x o (a.keep x o e ht hx hy) ht (fun q=>absurd (a.cI x q hx) (not_le.mpr (lt_size e))) hy
 pre:=a.pre.trans b.pre
 cI:=fun x q hx=>by
  by_cases q2:x∈lp l₂
  ·exact a.cI x q2 hx
  ·exact le_trans a.size (b.cI x q q2)
 size:=le_trans a.size b.size
theorem Step.fk(S:Step X ρ ρ' h h'):FK X y ρ.ah ρ'.ah h h':=⟨fun a o e t l Z=>S.keep a o e t l,S.pre,S.cI,S.size⟩
theorem Quiet.fk{cl:Bool}(Q:Quiet cl ρ x h h')(hxy:∀a,x a→y a):FK X y ρ.ah ρ.ah h h':=
 ⟨fun a o e Z Z hy=>Q.keep a o e fun hx=>hy (hxy a hx),prefix_refl _,fun Z q n=>absurd q n,Q.size⟩
theorem FK.weak{z:Addr→Prop}{l l':List (Addr×Addr)}(a:FK X y l l' h h')(hyz:∀a,y a→z a):FK X z l l' h h':=
 ⟨fun x o e t hl hz=>a.keep x o e t hl fun q=>hz (hyz x q),a.pre,a.cI,a.size⟩
noncomputable def Own(env:Env)(me:ao)(a:Addr):Prop:=a=env.locals∨∃x,me.names.lookup x=some .cell∧env.cells.lookup x=some a
theorem jy{x y:Str}:(me.set x u).vars y=if y=x then some u else me.vars y:=V8 _
theorem oh(Fi:bI X){x:Str}
 (I:bB X h₀ ρ₀ env me ρ σ s) (rv:VR X ρ s.heap v u) (hk:jk (me.names.lookup x)=true) (hf:me.names.lookup x≠some .free) (hp:u.plain=true)
 (hQ:∀s',bB X h₀ ρ₀ env (me.set x u) ρ σ s'→FK X (Own env me) ρ.ah ρ.ah s.heap s'.heap→Q () s'):wpAny (model P X.w) A (storeName env x v) Q E s:=by
 cases hkd:me.names.lookup x with
 | none=>rw [hkd] at hk;cases hk
 | some kd=>
  rw [hkd] at hk hf;have hn:env.kindOf x=some kd:=by
   rcases I.en.names x kd hkd with hn|⟨hh,_⟩
   ·exact hn
   ·subst hh;exact absurd rfl hf
  cases kd with
  | «local»=>
   refine aj I.en.loc ?_;intro m hm hl;have hk2:=I.en.kind;refine wpAny_storeName_local hn hm (fun h' hm' sb=>hQ _ ?_ ?fk) (by rw [hk2];rfl)
   case fk=>exact⟨fun a o e Z Z hy=>(sb.2 a fun z=>hy (.inl z)).trans e,prefix_refl _,fun Z q n=>absurd q n,le_of_eq sb.1.symm⟩
   have DQ:∀o,s.heap.get? env.locals=some o→∃es ep,o.data=.dict es ep:=fun o e=>by
    refine dw hm ?_;clear hm;intro o' es ep e' d _;obtain rfl:=Option.some.inj (e.symm.trans e');exact⟨_,_,d⟩
   have Qt:Quiet true ρ (·=env.locals) s.heap h':=
    {keep:=fun a o e hne=>(sb.2 a hne).trans e
     size:=le_of_eq sb.1.symm
     ge:=fun a ha=>ha▸I.rel.ge _ (aI.mpr (.inr I.en.priv))
     fX:=fun a ha q=>I.rel.cR a q (ha▸I.en.priv)
     kind:=fun a o ha e=>by
      subst ha;refine fq (DQ o e) ?_;intro es ep d;refine .inl ⟨fun hv=>?_,fun ps hh=>?_⟩
      ·rcases hv with⟨xs,n,y⟩|⟨_,⟨fd,y⟩|⟨w,y⟩|⟨ws,_,_,y,_⟩⟩<;>(rw [d] at y;cases y)
      ·rw [hh] at d;cases d }
   have M:bS true ρ ρ s.heap h':=Qt.mono;refine⟨I.aG.quiet Fi.size Qt,I.rel.quiet Qt,?_,I.step.quiet Qt (fun a ha=>ha▸I.jm),I.base,I.jm,I.gw⟩;refine { kind:=I.en.kind,globals:=I.en.globals,builtins:=I.en.builtins,code:=I.en.code,qual:=I.en.qual,names:=I.en.names,loc:=⟨_,hm',fun y w h1 h2=>?_⟩,cell:=fun y kd h1 h2=>?_,priv:=I.en.priv,pl:=fun hc y w h1 h2=>?_,inj:=I.en.inj,pv:=fun a ha=>?_ }
   ·rw [jy] at h2
    by_cases hy:y=x
    ·subst hy;rw [if_pos rfl] at h2 ⊢;cases h2;exact⟨v,rfl,rv.mono M (.inl rfl)⟩
    ·rw [if_neg hy] at h2 ⊢;refine aj (hl y w h1 h2) ?_;intro w' e1 e2;exact⟨w',e1,e2.mono M (.inl rfl)⟩
   ·refine bV (I.en.cell y kd h1 h2) ?_;intro c ov e1 e2 e3 e4;have hy:y≠x:=by
     rintro rfl;have kh:me.names.lookup y=some kd:=h1;rw [hkd] at kh;cases kh;rcases h2 with h2|h2<;>cases h2
    have NR:c≠env.locals:=by
     rintro rfl;refine aj e3 ?_;clear e3;intro o eo d;refine fq (DQ o eo) ?_;intro es ep d';rw [d] at d';cases d'
    refine⟨c,ov,e1,e2,e3.sameBut sb NR,fun w hw=>?_⟩;rw [jy,if_neg hy] at hw;refine aj (e4 w hw) ?_;intro w' e5 e6;exact⟨w',e5,e6.mono M (.inl rfl)⟩
   ·rw [jy] at h2
    by_cases hy:y=x
    ·subst hy;rw [if_pos rfl] at h2;cases h2;exact hp
    ·rw [if_neg hy] at h2;exact I.en.pl hc y w h1 h2
   ·by_cases hal:a=env.locals
    ·subst hal;refine dw hm' ?_;clear hm';intro o' es ep e' d' _;exact⟨o',e',.inl ⟨_,_,d'⟩⟩
    ·exact (I.en.pv a ha).keep fun o e=>(sb.2 a hal).trans e
  | cell=>
   refine bV (I.en.cell x _ hkd (.inl rfl)) ?_;intro c ov e1 e2 e3 e4;have hex:∃x,me.names.lookup x=some .cell:=⟨x,hkd⟩;refine wpAny_storeName_cell I.en.kind hn e1 e3 fun h' hc' sb=>hQ _ ?_ ?fk
   case fk=>exact⟨fun a o e Z Z hy=>(sb.2 a fun z=>hy (.inr ⟨x,hkd,z▸e1⟩)).trans e,prefix_refl _,fun Z q n=>absurd q n,le_of_eq sb.1.symm⟩
   refine aj (id e3) ?_;intro oc hoc hdc;have Qt:Quiet false ρ (·=c) s.heap h':=
    {keep:=fun a o e hne=>(sb.2 a hne).trans e
     size:=le_of_eq sb.1.symm
     ge:=fun a ha=>ha▸le_trans I.base (I.gw x c hkd e1)
     fX:=fun a ha q=>e2 (aI.mpr (.inl (ha▸q)))
     kind:=fun a o ha e=>by
      subst ha;obtain rfl:=Option.some.inj (e.symm.trans hoc);exact .inr (.inr ⟨rfl,_,hdc⟩) }
   have M:bS false ρ ρ s.heap h':=Qt.mono;refine aj I.en.loc ?_;intro m hm hl;have Ny:env.locals≠c:=by
    rintro rfl;refine dw hm ?_;clear hm;intro o' es ep e' d _;obtain rfl:=Option.some.inj (e'.symm.trans hoc);rw [d] at hdc;cases hdc
   refine⟨I.aG.quiet Fi.size Qt,I.rel.quiet Qt,?_,I.step.quiet Qt (fun a ha=>ha▸I.gw x c hkd e1),I.base,I.jm,I.gw⟩;refine { kind:=I.en.kind,globals:=I.en.globals,builtins:=I.en.builtins,code:=I.en.code,qual:=I.en.qual,names:=I.en.names,loc:=⟨m,hm.sameBut sb Ny,fun y w h1 h2=>?_⟩,cell:=fun y kd h1 h2=>?_,priv:=I.en.priv,pl:=fun hc y w h1 h2=>?_,inj:=I.en.inj,pv:=fun a ha=>?_ }
   ·have hy:y≠x:=by
     rintro rfl;have kh:me.names.lookup y=some .local :=h1;rw [hkd] at kh;cases kh
    rw [jy,if_neg hy] at h2;refine aj (hl y w h1 h2) ?_;intro w' e5 e6;exact⟨w',e5,e6.mono M (.inr (I.en.pl hex y w (by rw [show me.names.lookup y=_ from h1];rfl) h2))⟩
   ·refine bV (I.en.cell y kd h1 h2) ?_;intro c' Tq f1 f2 f3 f4
    by_cases hy:y=x
    ·subst hy;rw [e1] at f1;cases f1;refine⟨c,some v,e1,e2,hc',fun w hw=>?_⟩;rw [jy,if_pos rfl] at hw;cases hw;exact⟨v,rfl,rv.mono M (.inr hp)⟩
    ·have hcc:c'≠c:=fun z=>hy (I.en.inj y x c (z▸f1) e1);refine⟨c',Tq,f1,f2,f3.sameBut sb hcc,fun w hw=>?_⟩;rw [jy,if_neg hy] at hw;refine aj (f4 w hw) ?_;intro w' e5 e6;refine⟨w',e5,e6.mono M (.inr (I.en.pl hex y w ?_ hw))⟩;rw [show me.names.lookup y=_ from h1];rcases h2 with rfl|rfl<;>rfl
   ·rw [jy] at h2
    by_cases hy:y=x
    ·subst hy;rw [if_pos rfl] at h2;cases h2;exact hp
    ·rw [if_neg hy] at h2;exact I.en.pl hc y w h1 h2
   ·refine (I.en.pv a ha).keep fun o e=>(sb.2 a ?_).trans e;rintro rfl;refine aj (I.en.pv a ha) ?_;intro o' e' d;obtain rfl:=Option.some.inj (e'.symm.trans hoc);rcases d with⟨es,ep,d⟩|⟨xs,nn,d⟩<;>(rw [hdc] at d;cases d)
  | free=>exact absurd rfl hf
  | _=>cases hk
theorem Step.re(S:Step X ρ ρ' h h')(p:List Addr):Step X ⟨ρ.ah,p⟩ ⟨ρ'.ah,p⟩ h h' where
 keep:=S.keep
 pre:=S.pre
 cI:=S.cI
 fresh:=fun a q hn=>by
  rcases aI.mp q with q|q
  ·exact S.cI a q fun z=>hn (aI.mpr (.inl z))
  ·exact absurd (aI (ρ:=⟨ρ.ah,p⟩) |>.mpr (.inr q)) hn
 size:=S.size
theorem bB.after{σ':aa}{s₁:Shared}{ah:List (Addr×Addr)}(I:bB X h₀ ρ₀ env me ρ σ s)
 (S:Step X ρ ⟨ah,ρ.priv⟩ s.heap s₁.heap) (Am:aq X s₁) (R:Rel X ⟨ah,ρ.priv⟩ σ' s₁.heap):bB X h₀ ρ₀ env me ⟨ah,ρ.priv⟩ σ' s₁ where
 aG:=Am
 rel:=R
 en:=I.en.step I.aG I.rel S rfl
 step:=I.step.trans (S.re ρ₀.priv)
 base:=I.base
 jm:=I.jm
 gw:=I.gw
theorem b5.quiet(H:b5 X ρ env me h)(Q:Quiet true ρ x h h')(hx:∀a o,x a→h.get? a=some o→(∀es ep,o.data≠.dict es ep)∧∀v,o.data≠.cell v)
 (bg:∀a∈ρ.priv,x a→(∃o,h.get? a=some o∧isSeq o)→bX h' a):b5 X ρ env me h' where
 kind:=H.kind
 globals:=H.globals
 builtins:=H.builtins
 code:=H.code
 qual:=H.qual
 names:=H.names
 loc:=by
  refine aj H.loc ?_;intro m hh;refine dw hh ?_;clear hh;intro o es ep e d r;intro hv;refine⟨m,⟨o,es,ep,Q.keep _ _ e fun z=>(hx _ o z e).1 es ep d,d,r⟩,fun y u h1 h2=>?_⟩;refine aj (hv y u h1 h2) ?_;intro v h3 h4;exact⟨v,h3,h4.mono Q.mono (.inl rfl)⟩
 cell:=fun y kd h1 h2=>by
  refine bV (H.cell y kd h1 h2) ?_;intro c ov e1 e2 hh;refine aj hh ?_;clear hh;intro o eo d;intro e4;refine⟨c,ov,e1,e2,⟨o,Q.keep _ _ eo fun z=>(hx _ o z eo).2 _ d,d⟩,fun u hu=>?_⟩;refine aj (e4 u hu) ?_;intro v h3 h4;exact⟨v,h3,h4.mono Q.mono (.inl rfl)⟩
 priv:=H.priv
 pl:=H.pl
 inj:=H.inj
 pv:=fun a ha=>by
  by_cases hxa:x a
  ·refine aj (H.pv a ha) ?_;intro o e d;rcases d with⟨es,ep,d⟩|d
   ·exact absurd d ((hx a o hxa e).1 es ep)
   ·exact bg a ha hxa ⟨o,e,d⟩
  ·exact (H.pv a ha).keep fun o e=>Q.keep a o e hxa
theorem bB.quiet(Fi:bI X)(I:bB X h₀ ρ₀ env me ρ σ s)(Q:Quiet true ρ x s.heap s'.heap)
 (hx:∀a o,x a→s.heap.get? a=some o→(∀es ep,o.data≠.dict es ep)∧∀v,o.data≠.cell v) (hn:∀a,x a→h₀.objs.size≤a) (bg:∀a∈ρ.priv,x a→(∃o,s.heap.get? a=some o∧isSeq o)→bX s'.heap a) (ho:s'.os=s.os:=by rfl) (hg:s'.gens=s.gens:=by rfl):bB X h₀ ρ₀ env me ρ σ s' where
 aG:=I.aG.quiet Fi.size Q ho hg
 rel:=I.rel.quiet Q
 en:=I.en.quiet Q hx bg
 step:=I.step.quiet Q hn
 base:=I.base
 jm:=I.jm
 gw:=I.gw
theorem V7{t:Addr}{items:Array Value}{targets:List (Bool×(Value→Sem Unit))}(hh:A.handled=none)(ht:s.heap.IsTuple t items)
 (hn:targets.length=items.size) (hstar:targets.findIdx? (·.1)=none)
 (h:∀h',aM s.heap h'→wpAny (model P X.w) A (assignInOrder (targets.map (·.2)) items.toList) Q E { s with heap:=h' }) :
 wpAny (model P X.w) A (unpack (.ref t) targets) Q E s:=by
 unfold unpack;rw [hn,hstar];refine wpAny_bind (wpAny_holding (mR (le_refl _) (wpAny_mono (wpAny_unpackItems_tuple (E:=fun Z Z=>False) (Q:=fun l s'=>l=items.toList∧∃h',ExtBut s.heap.objs.size s.heap h'∧s'={ s with heap:=h' }) hh ht fun h' eb=>⟨rfl,h',eb,rfl⟩) ?_ fun Z Z e=>e.elim)))
 intro l s' hh;obtain⟨rfl,h',eb,rfl⟩:=hh;intro hs;exact h h' ⟨fun b o e=>eb b o (ne_of_lt (lt_size e)) e,hs⟩
theorem aM.quiet(G:aM h h'):Quiet true ρ (fun Z=>False) h h':=⟨fun a o e Z=>G.keep a o e,G.size,fun Z f=>f.elim,fun Z f=>f.elim,fun Z Z f=>f.elim⟩
theorem mT(e:iA me t u=some az):∃x p,t=.Name x p∧u.plain=true∧jk (me.names.lookup x)=true∧me.names.lookup x≠some .free∧az=me.set x u:=by
 refine bK (jh nS e) ?_;intro x p ht e;refine bJ e ?_;intro hc hm;refine au (and_eq_true_iff.mp hc) ?_;intro h1 h2;refine au (and_eq_true_iff.mp h1) ?_;intro h3 h4;exact⟨x,p,ht,h3,h4,(fun z=>by rw [z] at h2;cases h2),hm.symm⟩
theorem xe(Fi:bI X)
 (I:bB X h₀ ρ₀ env me ρ σ s) (rv:VR X ρ s.heap v u) (e:iA me t u=some az)
 (hQ:∀s',bB X h₀ ρ₀ env az ρ σ s'→FK X (Own env me) ρ.ah ρ.ah s.heap s'.heap→az.names=me.names→Q () s'):wpAny (model P X.w) A (assign t env v) Q E s:=by
 refine lC (mT e) ?_;rintro x p rfl h1 h2 h3 rfl;exact wpAny_assign_Name (oh Fi I rv h2 h3 h1 fun s' I' F=>hQ s' I' F rfl)
theorem IV:∀{ts:List Expr} {us:List V} {me az:ao},oM me ts us=some az→(assignEach ts env).length=us.length∧(assignEach ts env).findIdx? (·.1)=none:=by
 intro ts
 induction ts with
 | nil=>intro us me az e;cases us with
  | nil=>exact⟨rfl,rfl⟩
  | cons=>exact nn e
 | cons t ts ih=>intro us me az e;cases us with
  | nil=>exact nn e
  | cons u us=>
   refine aH e ?_;intro bu e1 e2;refine bK (mT e1) ?_;rintro x p rfl _;have h:=ih e2;refine⟨congrArg (·+1) h.1,?_⟩
   show ((false,assign (.Name x p) env)::assignEach ts env).findIdx? (·.1)=none
   rw [List.findIdx?_cons];simp [h.2]
theorem MI(I:bB X h₀ ρ₀ env me ρ σ s)(F:FK X (Own env me) ρ.ah ρ.ah s.heap s'.heap):bS false ρ ρ s.heap s'.heap:=by
 refine⟨fun a o e ha hv=>F.keep a o e ?_ (fun q=>ha (aI.mpr (.inl q))) ?_,prefix_refl _,fun a q n=>absurd q n⟩
 ·exact I.aG.kK e (hv.imp id fun y=>⟨rfl,y.2⟩)
 ·rintro (rfl|⟨y,hy1,ze⟩)
  ·exact ha (aI.mpr (.inr I.en.priv))
  ·refine bV (I.en.cell y _ hy1 (.inl rfl)) ?_;intro c ov f1 f2 hh;refine aj hh ?_;clear hh;intro o' f3 xX;intro f4;rw [ze] at f1;cases f1;obtain rfl:=Option.some.inj (e.symm.trans f3);rcases hv with⟨xs,n,z⟩|⟨z,_⟩
   ·rw [xX] at z;cases z
   ·cases z
theorem I5(Fi:bI X):∀{ts:List Expr} {us:List V} {vs:List Value} {me:ao} {s:Shared},
 bB X h₀ ρ₀ env me ρ σ s→aC X ρ s.heap vs us→V.bD us=true→oM me ts us=some az→
 (∀s',bB X h₀ ρ₀ env az ρ σ s'→FK X (Own env me) ρ.ah ρ.ah s.heap s'.heap→az.names=me.names→Q () s')→wpAny (model P X.w) A (assignInOrder ((assignEach ts env).map (·.2)) vs) Q E s:=by
 intro ts
 induction ts with
 | nil=>
  intro us vs me s I rs hp e hQ;cases us with
  | nil=>obtain rfl:=rs.nil_inv;obtain rfl:=Option.some.inj e;exact wpAny_assignInOrder_none (hQ s I (FK.refl _ _) rfl)
  | cons=>exact nn e
 | cons t ts ih=>
  intro us vs me s I rs hp e hQ;cases us with
  | nil=>exact nn e
  | cons u us=>
   refine bw rs.inv ?_;rintro v vs rfl rv rs;refine aH e ?_;intro bu e1 e2;have hp:=(and_eq_true_iff.mp hp).2;refine bK (mT e1) ?_;rintro x p rfl _;refine wpAny_assignInOrder_more (xe Fi I rv e1 fun s' I' F hn=>?_);have ho:Own env bu=Own env me:=by unfold Own;rw [hn]
   exact ih I' (rs.mono (MI I F) (.inr hp)) hp e2 fun s'' gK F' hn'=>hQ s'' gK (F.trans (ho▸F')) (hn'.trans hn)
theorem xg(Fi:bI X)(hh:A.handled=none)
 (I:bB X h₀ ρ₀ env me ρ σ s) (rv:VR X ρ s.heap v u) (hp:u.plain=true) (e:cM me t u=some az)
 (hQ:∀s',bB X h₀ ρ₀ env az ρ σ s'→FK X (Own env me) ρ.ah ρ.ah s.heap s'.heap→az.names=me.names→Q () s'):wpAny (model P X.w) A (assign t env v) Q E s:=by
 unfold cM at e;cases hT:sS t with
 | none=>rw [hT] at e;exact xe Fi I rv e hQ
 | some ts=>
  rw [hT] at e;refine fq (AL hT) ?_;rintro c pos rfl;refine aH e ?_;clear e;intro us e1 e;obtain rfl:=AM e1;refine bV rv.inv ?_;rintro a vs rfl pt ha rs;have hl:=IV (env:=env) e;rw [arm_assign_Tuple];refine wpAny_bind (wpAny_standAt (V7 hh pt.is (hl.1.trans rs.length.symm) hl.2 fun h' G=>?_));have I':bB X h₀ ρ₀ env me ρ σ { s with heap:=h' }:=I.quiet Fi (s':={ s with heap:=h' }) G.quiet (fun Z Z f=>f.elim) (fun Z f=>f.elim) (fun Z Z f=>f.elim)
  exact I5 Fi I' (rs.mono (G.quiet (ρ:=ρ)).mono (.inl rfl)) hp e fun s' gK F hn=>hQ s' gK ((G.quiet (ρ:=ρ)).fk (y:=Own env me) (fun Z f=>f.elim) |>.trans F) hn
end
section
variable{y:Addr→Prop}{l':List (Addr×Addr)}{h h':Heap}{ρ:aB}{it acc:Value}{elt t i:Expr}{G:List Comprehension}{scope:Scope}{pos:Pos}{d:Nat}{ifs:List Expr}{env:Env}
variable{X:Ctx}{C:Calls}{k n:Nat}
theorem FK.drop{z:Addr→Prop}{l:List (Addr×Addr)}(a:FK X z l l' h h')(hz:∀b,z b→y b∨h.objs.size≤b):FK X y l l' h h':=
 ⟨fun x o e t hl hy=>a.keep x o e t hl fun q=>(hz x q).elim hy fun q=>absurd q (not_le.mpr (lt_size e)),a.pre,a.cI,a.size⟩
noncomputable def tu(ρ:aB)(h:Heap)(y:Addr→Prop):Prop:=∀a o,y a→h.get? a=some o→isSeq o→a∈ρ.priv
theorem FK.mono{s:Shared}(Am:aq X s)(F:FK X y ρ.ah l' s.heap h')(hy:tu ρ s.heap y):bS false ρ ⟨l',ρ.priv⟩ s.heap h' where
 keep:=fun a o e ha hv=>by
  have hs:isSeq o:=by rcases hv with h|⟨h,_⟩;exact h;cases h
  exact F.keep a o e (Am.kK e (.inl hs)) (fun q=>ha (aI.mpr (.inl q))) fun q=>ha (aI.mpr (.inr (hy a o q e hs)))
 pre:=F.pre
 fresh:=fun a q hn=>by
  rcases aI.mp q with q|q
  ·exact F.cI a q fun z=>hn (aI.mpr (.inl z))
  ·exact absurd ((aI (ρ:=ρ)).mpr (.inr q)) hn
theorem TS:∀{us:List V} {i:Nat},V.bD ((us.zipIdx i).map fun (v,i)=>V.tup [.int (i:Int),v])=true→V.bD us=true:=by
 intro us
 induction us with
 | nil=>intro _ _;exact rfl
 | cons u us rc=>intro i h;rw [zipIdx_cons,map_cons] at h;have h1:=and_eq_true_iff.mp h;have h2:(u.plain&&true)=true:=h1.1;exact and_eq_true_iff.mpr ⟨(Bool.and_true _).symm.trans h2,rc h1.2⟩
theorem cz.mono{xs:List Addr}{it:Addr}{us:List V}{ρ':aB}(I:cz X ρ h xs it us)(M:bS false ρ ρ' h h')(hk:∀a∈xs,∀o,h.get? a=some o→h'.get? a=some o)(hp:V.bD us=true):cz X ρ' h' xs it us:=by
 have lst:∀{a l:Addr} {i:Nat},a∈xs→h.IsListIter a l i→h'.IsListIter a l i:=fun ha ⟨o,e,q⟩=>⟨o,hk _ ha o e,q⟩;cases I with
 | list a b c d=>exact .list (lst (by simp) a) (M.list b c).1 (M.list b c).2 (d.mono M (.inr hp))
 | tuple a b c d=>refine aj a ?_;clear a;intro o e q;exact .tuple ⟨o,hk _ (by simp) o e,q⟩ (M.tuple b c).1 (M.tuple b c).2 (d.mono M (.inr hp))
 | range a=>exact .range (hk _ (by simp) _ a)
 | enum a b c d e f=>
  refine .enum (hk _ (by simp) _ a) (lst (by simp) b) (M.list c d).1 (M.list c d).2 e (f.mono M (.inr ?_))
  exact TS hp
theorem VQ(IT:gO X C k n):∀{ifs:List Expr} {me:ao} {σ:aa} {b:Bool} {σ':aa},ou (aX C n) me ifs σ=some (b,σ')→∀{env:Env} {A:Around} {E:Value→Shared→Prop} {ρ:aB} {s:Shared},
 aT k A→aq X s→Rel X ρ σ s.heap→b5 X ρ env me s.heap→
 wpAny (model P X.w) A (forIn ifs true fun c r=>if r=true then do let ok ←isTrue c env (eval c env);pure (ForInStep.yield ok) else pure (ForInStep.yield r)) (fK X ρ s σ' b) E s:=by
 intro ifs
 induction ifs with
 | nil=>intro me σ b σ' h env A E ρ s Rm Am R H;refine au (fT h) ?_;rintro rfl rfl;exact wpAny_pure ⟨ρ.ah,Step.refl _ _,Am,R,rfl⟩
 | cons e r ih=>
  intro me σ b σ' h env A E ρ s Rm Am R H;refine aY h ?_;intro c σ₁ e1 h;rw [forIn_cons];refine wpAny_bind (wpAny_bind (wm (IT e1 Rm Am R H) (fun c' s₁ hc=>wpAny_pure ?_)));obtain⟨ah,S,aQ,R₁,rfl⟩:=hc;cases c' with
  | true=>exact wm (ih h Rm aQ R₁ (H.step Am R S rfl)) (fun Z Z x=>x.after S)
  | false=>
   simp only [false_eq_true,if_false,Option.some.injEq,Prod.mk.injEq] at h;refine au h ?_;clear h;rintro rfl rfl;have:∀l:List Expr,(forIn l false fun c r=>if r=true then do let ok ←isTrue c env (eval c env);pure (ForInStep.yield ok) else pure (ForInStep.yield r):Sem Bool)=pure false:=by
    intro l
    induction l with
    | nil=>rfl
    | cons a l ih=>simp only [forIn_cons,false_eq_true,if_false];exact ih
   show wpAny (model P X.w) A (forIn r false fun c r=>if r=true then do let ok ←isTrue c env (eval c env);pure (ForInStep.yield ok) else pure (ForInStep.yield r)) _ _ _
   rw [this];exact wpAny_pure ⟨ah,S,aQ,R₁,rfl⟩
noncomputable abbrev v5(ifs:List Expr)(env:Env):Sem Bool:=forIn ifs true fun c r=>if r=true then do let ok ←isTrue c env (eval c env);pure (ForInStep.yield ok) else pure (ForInStep.yield r)
theorem Ld(hG:G[d]?=some ⟨t,i,ifs,0⟩)(hN:G[d+1]?=none) :
 compTurn (.ListComp elt G scope pos) d it acc env=(standAt i.pos>>=fun Z=>pyNext it>>=fun r=>match r with
  | none=>pure (.done .next)
  | some v=>letOwnedTupleGo t it v>>=fun Z=>assign t env v>>=fun Z=>v5 ifs env>>=fun ok=>
   (if ok=true then ((do let _ ←call (.builtin "list.append") [acc,←eval elt env]:Sem PUnit)>>=fun Z=>again (.compLoop (.ListComp elt G scope pos) d it acc env))
   else again (.compLoop (.ListComp elt G scope pos) d it acc env))):=by
 unfold compTurn;simp only [hG,hN];rfl
theorem Le{t' i':Expr}{ifs':List Expr}(hG:G[d]?=some ⟨t,i,ifs,0⟩)(hN:G[d+1]?=some ⟨t',i',ifs',0⟩) :
 compTurn (.ListComp elt G scope pos) d it acc env=(standAt i.pos>>=fun Z=>pyNext it>>=fun r=>match r with
  | none=>pure (.done .next)
  | some v=>letOwnedTupleGo t it v>>=fun Z=>assign t env v>>=fun Z=>v5 ifs env>>=fun ok=>
   (if ok=true then (eval i' env>>=fun x=>standAt i'.pos>>=fun Z=>foldedSetIterable i' env x>>=fun x=>holding [x] (pyIter x)>>=fun it'=>
    runOwn (.compStart (.ListComp elt G scope pos) (d+1) it' acc env) env>>=fun Z=>again (.compLoop (.ListComp elt G scope pos) d it acc env))
   else again (.compLoop (.ListComp elt G scope pos) d it acc env))):=by
 unfold compTurn;simp only [hG,hN];rfl
end
section
variable{ρ:aB}{s s₁:Shared}{en:Bool}{items l:List V}{σ' σ₁ σ:aa}{ah:List (Addr×Addr)}{a b:Int}{A:Around}{E:Value→Shared→Prop}{v:Value}{me:ao}{env:Env}
variable{X:Ctx}{C:Calls}{k n:Nat}
structure mF(X:Ctx)(ρ:aB)(s:Shared)(en:Bool)(items:List V)(σ':aa)(itv:Value)(s₂:Shared)(ah:List (Addr×Addr))(xs:List Addr)(it:Addr):Prop where
 eq:itv=.ref it
 at':cz X ⟨ah,ρ.priv⟩ s₂.heap xs it items
 bD:V.bD items=true
 new:∀a∈xs,s.heap.objs.size≤a∧a∉lp ah
 one:xs.length=1∨en=true
 step:Step X ρ ⟨ah,ρ.priv⟩ s.heap s₂.heap
 aG:aq X s₂
 rel:Rel X ⟨ah,ρ.priv⟩ σ' s₂.heap
theorem mF.zT{o:Obj}(S:Step X ρ ⟨ah,ρ.priv⟩ s.heap s₁.heap)(Am:aq X s₁)(R:Rel X ⟨ah,ρ.priv⟩ σ' s₁.heap)
 (hI:cz X ⟨ah,ρ.priv⟩ (s₁.heap.push o) [s₁.heap.objs.size] s₁.heap.objs.size items) (hp:V.bD items=true) :
 mF X ρ s en items σ' (.ref s₁.heap.objs.size) { s₁ with heap:=s₁.heap.push o } ah [s₁.heap.objs.size] s₁.heap.objs.size where
 eq:=rfl
 at':=hI
 bD:=hp
 new:=fun a ha=>by
  simp only [mem_singleton] at ha;subst ha;exact⟨S.size,fun q=>lt_irrefl _ (R.lt _ (aI.mpr (.inl q)))⟩
 one:=.inl rfl
 step:=S.trans ((aM.push _ _).step _)
 aG:=Am.grown (aM.push _ _)
 rel:=R.grown (aM.push _ _)
theorem U'(h0:0≤a)(ha:a≤100)(h1:0≤b)(hb:b≤100):Builtin.Range.small a b 1=true:=small_one (by lia) (by lia) (by lia) (by lia)
theorem Qn(a:Int)(n:Nat):V.bD ((List.range n).map fun (i:Nat)=>V.int (a+i))=true:=by
 rw [eX];intro v hv;refine aj (mem_map.mp hv) ?_;rintro i _ rfl;rfl
theorem TU(h:V.bD l=true):∀i,V.bD ((l.zipIdx i).map fun (v,i)=>V.tup [.int (i:Int),v])=true:=by
 induction l with
 | nil=>intro i;rfl
 | cons v l ih=>intro i;rw [zipIdx_cons,map_cons];refine au (and_eq_true_iff.mp h) ?_;intro h1 h2;exact and_eq_true_iff.mpr ⟨show (true&&(v.plain&&true))=true by rw [h1];rfl,ih h2 _⟩
theorem Qp{u:V}(S:Step X ρ ⟨ah,ρ.priv⟩ s.heap s₁.heap)(Am:aq X s₁)(R:Rel X ⟨ah,ρ.priv⟩ σ' s₁.heap)
 (rv:VR X ⟨ah,ρ.priv⟩ s₁.heap v u) (hl:vO u=some l) (hp:V.bD l=true):wpAny (model P X.w) A (pyIter v) (fun itv s₂=>∃ah xs it,mF X ρ s en l σ' itv s₂ ah xs it) E s₁:=by
 rcases sD hl with hl|hl
 ·obtain rfl:=u9 hl;refine bV rv.inv ?_;rintro a vs rfl hh;refine aA hh ?_;clear hh;intro nn e;intro b c;refine wpAny_pyIter_list (PL.is ⟨nn,e⟩) ⟨ah,_,_,mF.zT S Am R ?_ hp⟩;exact .list (i:=0) ⟨_,get?_push_size _ rfl,rfl,rfl⟩ ⟨nn,get?_push_of_some _ e⟩ b (c.step Am ((aM.push _ _).step _))
 ·obtain rfl:=AM hl;refine bV rv.inv ?_;rintro a vs rfl hh;refine aA hh ?_;clear hh;intro nn e;intro b c;refine wpAny_pyIter_tuple (PT.is ⟨nn,e⟩) ⟨ah,_,_,mF.zT S Am R ?_ hp⟩;exact .tuple (i:=0) ⟨_,get?_push_size _ rfl,rfl,rfl⟩ ⟨nn,get?_push_of_some _ e⟩ b (c.step Am ((aM.push _ _).step _))
theorem Ur(a b:Int):Builtin.Range.rangeSize a b 1=((b - a).toNat:Int):=rangeSize_nat a b
noncomputable abbrev s9(X:Ctx)(ρ:aB)(s:Shared)(en:Bool)(items:List V)(σ':aa)(itv:Value)(s₂:Shared):Prop:=∃ah xs it,mF X ρ s en items σ' itv s₂ ah xs it
theorem GD(S:Step X ρ ⟨ah,ρ.priv⟩ s.heap s₁.heap)(aQ:aq X s₁)(R₁:Rel X ⟨ah,ρ.priv⟩ σ₁ s₁.heap)
 {t u v:Tok} {tk:Nat} (hn:0≤a∧a≤100∧0≤b∧b≤100) :
 wpAny (model P X.w) A (pyIter (.ref s₁.heap.objs.size)) (s9 X ρ s en ((List.range (b - a).toNat).map fun (i:Nat)=>V.int (a+i)) σ₁) E { s₁ with heap:=s₁.heap.push { cls:=.type "range",data:=.fields #[.int a t,.int b u,.int 1 v] },toks:=tk }:=by
 have G:=aM.push s₁.heap { cls:=.type "range",data:=.fields #[.int a t,.int b u,.int 1 v] };refine wpAny_pyIter_range (IsRange.new ..) (U' hn.1 hn.2.1 hn.2.2.1 hn.2.2.2) ⟨ah,_,_,mF.zT (s₁:={ s₁ with heap:=s₁.heap.push { cls:=.type "range",data:=.fields #[.int a t,.int b u,.int 1 v] },toks:=tk }) (S.trans (G.step _)) (aQ.grown G) (R₁.grown G) ?_ (Qn _ _)⟩
 refine .range (x:=a) (n:=(b - a).toNat) ?_;show IsRangeIter _ _ _ _ _;rw [←Ur];exact get?_push_size _ rfl
theorem LJ(S:Step X ρ ⟨ah,ρ.priv⟩ s.heap s₁.heap)(aQ:aq X s₁)(R₁:Rel X ⟨ah,ρ.priv⟩ σ₁ s₁.heap)
 (rv:VR X ⟨ah,ρ.priv⟩ s₁.heap v (.lst l)) (hp:V.bD l=true) :
 wpAny (model P X.w) A (call (.type "enumerate") [v] []) (fun x s₁=>wpAny (model P X.w) A (pyIter x) (s9 X ρ s true (l.zipIdx.map fun (v,i)=>.tup [.int (i:Int),v]) σ₁) E s₁) E s₁:=by
 refine bV rv.inv ?_;rintro ad vs rfl a b c;refine call_enumerate_list a.is fun h' q1 q2 q3 q4=>wpAny_pyIter_enum q1 ?_;have G:aM s₁.heap h':=⟨q4,by rw [q3];lia⟩
 refine⟨ah,[s₁.heap.objs.size+1,s₁.heap.objs.size],_,⟨rfl,?_,TU hp 0,fun b hb=>?_,.inr rfl,S.trans (G.step _),aQ.grown G,R₁.grown G⟩⟩
 ·refine aA a ?_;clear a;intro nn e;exact .enum (i:=0) q1 q2 ⟨nn,q4 _ _ e⟩ b (Nat.succ_ne_self _) (c.step aQ (G.step _))
 ·have hb:b=s₁.heap.objs.size+1∨b=s₁.heap.objs.size:=by simpa using hb
  have hs:=S.size;refine⟨by rcases hb with rfl|rfl;exact le_succ_of_le hs;exact hs,fun z=>?_⟩
  have:=R₁.lt _ (aI.mpr (.inl z));rcases hb with rfl|rfl
  ·exact absurd this (not_lt.mpr (le_succ _))
  ·exact absurd this (lt_irrefl _)
theorem HG(IH:dg X C k n)(CO:bL X C k){f:Str}{p q:Pos}{as:List Expr}{T:String}{vs:List V}(hnm:cy C me f=some (.ty T))(e1:b7 (ak C n) me as σ=some (vs,σ₁))(hne:vs≠[]){Q:Value→Shared→Prop}
 (Rm:aT k A) (Am:aq X s) (R:Rel X ρ σ s.heap) (H:b5 X ρ env me s.heap) (h:∀ws s₁,wO X ρ s σ₁ vs ws s₁→wpAny (model P X.w) A (call (.type T) ws []) Q E s₁):wpAny (model P X.w) A (eval (.Call (.Name f p) as [] q) env) Q E s:=by
 rw [oY (by intro _ _ _ z;cases z)]
 refine wpAny_bind ((gW CO hnm Am H fun v rv=>?_).2);obtain rfl:=rv.inv;refine PySem.callWith_type (vn e1) ?_;have core:wpAny (model P X.w) A (spliced (backTo q (starEach as env))) (fun ws s₁=>wpAny (model P X.w) A (call (.type T) ws []) Q E s₁) E s:=wm (qX IH e1 Rm Am R H) (fun ws s₁ hw=>h ws s₁ hw);cases as with
 | nil=>exact absurd (fT e1).1.symm hne
 | cons e₀ as=>rw [iT (pq e1).1,iB] at core ⊢;exact evalArgs_plain core
theorem zp(IH:dg X C k n)(CO:bL X C k){e:Expr}(h:dD (ak C n) C me e σ=some (items,σ'))
 (Rm:aT k A) (Am:aq X s) (R:Rel X ρ σ s.heap) (H:b5 X ρ env me s.heap) :
 wpAny (model P X.w) A (eval e env) (fun x s₁=>wpAny (model P X.w) A (pyIter x) (s9 X ρ s (fP C me e) items σ') E s₁) E s:=by
 have plain:vH (ak C n) me e σ=some (items,σ')→
  wpAny (model P X.w) A (eval e env) (fun x s₁=>wpAny (model P X.w) A (pyIter x) (s9 X ρ s (fP C me e) items σ') E s₁) E s:=by
  intro h;refine cps fun Z kk=>?_;refine aY h ?_;clear h;intro v σ₁ e1 h;refine aH h ?_;clear h;intro l e2 h;refine bJ h ?_;clear h;intro hc h;refine kk ?_;clear kk;refine au (Prod.mk.inj h) ?_;rintro rfl rfl;refine wm (IH e1 Rm Am R H) (fun w s₁ hw=>?_);obtain⟨ah,S,aQ,R₁,rv⟩:=hw;exact Qp S aQ R₁ rv e2 hc.2
 unfold dD at h;cases hc:lz e with
 | none=>rw [hc] at h;exact plain h
 | some z=>
  obtain⟨f,p,as,q⟩:=z;rw [hc] at h;have hen:fP C me e=kG (cy C me f) "enumerate":=by unfold fP;rw [hc]
  by_cases hr:kG (cy C me f) "range"=true
  ·refine cps fun Z kk=>?_;refine aY ((if_pos hr).symm.trans h) ?_;intro vs σ₁ e1 h;refine fL h ?_;clear h;intro a m b e2 h;refine bJ h ?_;clear h;intro hn h;refine kk ?_;clear kk;refine au (Prod.mk.inj h) ?_;rintro rfl rfl;refine au (Uq e2) ?_;rintro rfl hv;obtain rfl:=xE hc;refine HG IH CO (EL hr) e1 (by rcases hv with⟨rfl,_⟩|rfl<;>exact List.cons_ne_nil _ _) Rm Am R H fun ws s₁ hw=>?_
   obtain⟨ah,S,aQ,R₁,rs⟩:=hw;rcases hv with⟨rfl,rfl⟩|rfl
   ·refine bw rs.inv ?_;rintro v ws rfl rv rs;obtain rfl:=rs.nil_inv;refine aA rv.inv ?_;rintro t rfl;exact call_range_1 (GD S aQ R₁ hn)
   ·refine bw rs.inv ?_;rintro v ws rfl rv rs;refine bw rs.inv ?_;rintro w ws rfl rw rs;obtain rfl:=rs.nil_inv;refine aA rv.inv ?_;rintro t rfl;refine aA rw.inv ?_;rintro t' rfl;exact call_range_2 (GD S aQ R₁ hn)
  ·have h:=(if_neg hr).symm.trans h
   by_cases hr:kG (cy C me f) "enumerate"=true
   ·refine cps fun Z kk=>?_;refine aY ((if_pos hr).symm.trans h) ?_;intro vs σ₁ e1 h;refine aH h ?_;clear h;intro u e2 h;refine aH h ?_;clear h;intro l e3 h;refine bJ h ?_;clear h;intro hn h;refine kk ?_;clear kk;refine au (Prod.mk.inj h) ?_;rintro rfl rfl;obtain rfl:=jv e2;obtain rfl:=u9 e3;rw [hen,hr];obtain rfl:=xE hc;refine HG IH CO (EL hr) e1 (List.cons_ne_nil _ _) Rm Am R H fun ws s₁ hw=>?_;obtain⟨ah,S,aQ,R₁,rs⟩:=hw;refine bw rs.inv ?_;rintro v ws rfl rv rs;obtain rfl:=rs.nil_inv;exact LJ S aQ R₁ rv hn.2
   ·exact plain ((if_neg hr).symm.trans h)
end
section
variable{env:Env}{me az:ao}{acc it:Addr}{h₀ h':Heap}{ρ₀ ρ:aB}{σ:aa}{s:Shared}{out us:List V}{xs:List Addr}{l':List (Addr×Addr)}
variable{X:Ctx}{C:Calls}{k n:Nat}
structure gc(X:Ctx)(h₀:Heap)(ρ₀:aB)(cenv:Env)(me:ao)(ρ:aB)(σ:aa)(s:Shared)(acc:Addr)(out:List V):Prop where
 inf:bB X h₀ ρ₀ cenv me ρ σ s
 list:∃vs,PL s.heap acc vs∧aC X ρ s.heap vs.toList out
 pl:V.bD out=true
 priv:acc∈ρ.priv
 ge:h₀.objs.size≤acc
noncomputable def YC(cenv:Env)(me:ao)(acc:Addr)(a:Addr):Prop:=Own cenv me a∨a=acc
theorem qI(h:az.names=me.names):Own env az=Own env me:=by unfold Own;rw [h]
theorem Bl(h:az.names=me.names):YC env az acc=YC env me acc:=by unfold YC;rw [qI h]
theorem vB(I:bB X h₀ ρ₀ env me ρ σ s){a:Addr}{o:Obj}(ha:Own env me a)(e:s.heap.get? a=some o):(∃es ep,o.data=.dict es ep)∨∃v,o.data=.cell v:=by
 rcases ha with rfl|⟨x,h1,h2⟩
 ·refine aj I.en.loc ?_;intro m hh;refine dw hh ?_;clear hh;intro o' es ep e' d _;intro _;obtain rfl:=Option.some.inj (e.symm.trans e');exact .inl ⟨_,_,d⟩
 ·refine bV (I.en.cell x _ h1 (.inl rfl)) ?_;intro c ov f1 f2 hh;refine aj hh ?_;clear hh;intro o' f3 xX;intro f4;rw [h2] at f1;cases f1;obtain rfl:=Option.some.inj (e.symm.trans f3);exact .inr ⟨_,xX⟩
theorem qj(I:bB X h₀ ρ₀ env me ρ σ s):tu ρ s.heap (Own env me):=fun a o ha e hs=>by
 refine fq hs ?_;clear hs;intro xs n d;rcases vB I ha e with⟨es,ep,d'⟩|⟨v,d'⟩<;>(rw [d] at d';cases d')
theorem WI(I:gc X h₀ ρ₀ env me ρ σ s acc out):tu ρ s.heap (YC env me acc):=fun a o ha e hs=>by
 rcases ha with ha|rfl
 ·exact qj I.inf a o ha e hs
 ·exact I.priv
theorem cz.fk{y:Addr→Prop}(I:cz X ρ s.heap xs it us)(Am:aq X s)(F:FK X y ρ.ah l' s.heap h')(hy:tu ρ s.heap y)
 (hx:∀a∈xs,¬y a∧a∉lp ρ.ah) (hp:V.bD us=true):cz X ⟨l',ρ.priv⟩ h' xs it us:=by
 refine I.mono (F.mono Am hy) (fun a ha o e=>?_) hp;refine cY (jl I a ha) ?_;intro o' T vs e' c hT d;obtain rfl:=Option.some.inj (e.symm.trans e');exact F.keep a o e (Am.lY e (fun ps q=>by rw [q] at c;cases c) (.inr fun es ep z=>by rw [d] at z;cases z)) (hx a ha).2 (hx a ha).1
theorem wk(I:gc X h₀ ρ₀ env me ρ σ s acc out)(J:cz X ρ s.heap xs it us):∀a∈xs,¬YC env me acc a:=by
 intro a ha hy;refine cY (jl J a ha) ?_;intro o T vs e c hT d;rcases hy with hy|rfl
 ·rcases vB I.inf hy e with⟨es,ep,d'⟩|⟨v,d'⟩<;>(rw [d] at d';cases d')
 ·refine aj I.list ?_;intro ws hh;refine aA hh ?_;clear hh;intro nn p;intro _;obtain rfl:=Option.some.inj (e.symm.trans p);cases d
theorem uS{h:Heap}(J:cz X ρ h xs it us):∀a∈ρ.priv,a∈xs→(∃o,h.get? a=some o∧isSeq o)→bX h' a:=by
 intro a _ ha hh;obtain⟨o,e,ys,n,d⟩:=hh;refine cY (jl J a ha) ?_;intro o' T vs e' c hT d';obtain rfl:=Option.some.inj (e.symm.trans e');rw [d] at d';cases d'
theorem gc.fk{σ':aa}{s':Shared}(I:gc X h₀ ρ₀ env me ρ σ s acc out)(F:FK X (Own env me) ρ.ah l' s.heap s'.heap)
 (J:bB X h₀ ρ₀ env az ⟨l',ρ.priv⟩ σ' s'):gc X h₀ ρ₀ env az ⟨l',ρ.priv⟩ σ' s' acc out where
 inf:=J
 list:=by
  refine aj I.list ?_;intro vs hh;refine aA hh ?_;clear hh;intro nn p;intro r;refine⟨vs,⟨nn,F.keep acc _ p (I.inf.aG.kK p (.inl ⟨_,_,rfl⟩)) (fun q=>I.inf.rel.cR _ q I.priv) fun hy=>?_⟩,r.mono (F.mono I.inf.aG (qj I.inf)) (.inr I.pl)⟩;rcases vB I.inf hy p with⟨es,ep,d'⟩|⟨v,d'⟩<;>cases d'
 pl:=I.pl
 priv:=I.priv
 ge:=I.ge
inductive s8(X:Ctx)(h₀:Heap)(ρ₀:aB)(cenv:Env)(me az:ao)(ρ:aB)(s:Shared)(σ':aa)(acc:Addr)(out:List V)(y:Addr→Prop)(s':Shared):Prop
 | mk (aO:List (Addr×Addr)):gc X h₀ ρ₀ cenv az ⟨aO,ρ.priv⟩ σ' s' acc out→FK X y ρ.ah aO s.heap s'.heap→az.names=me.names→s8 X h₀ ρ₀ cenv me az ρ s σ' acc out y s'
noncomputable def Bj(X:Ctx)(h₀:Heap)(ρ₀:aB)(cenv:Env)(acc:Addr)(A:Around)(names:List (Str×NameKind))(inner:ao→aa→Option (List V×ao×aa))(T:Sem PUnit):Prop:=
 ∀{me az:ao} {σ σ':aa} {out:List V},inner me σ=some (out,az,σ')→me.names=names→∀{E:Value→Shared→Prop} {ρ:aB} {s:Shared} {eF:List V},gc X h₀ ρ₀ cenv me ρ σ s acc eF→(eF++out).length≤sizeLine→
  wpAny (model P X.w) A T (fun Z s'=>s8 X h₀ ρ₀ cenv me az ρ s σ' acc (eF++out) (YC cenv me acc) s') E s
theorem Cx(Fi:bI X)(IT:gO X C k n){cenv:Env}{A:Around}{names:List (Str×NameKind)}{inner:ao→aa→Option (List V×ao×aa)}{T:Sem PUnit}(Rm:aT k A)
 (HI:Bj X h₀ ρ₀ cenv acc A names inner T) {elt t ie:Expr} {ifs:List Expr} {G:List Comprehension} {scope:Scope} {pos:Pos} {d:Nat}
 (hturn:∀it:Addr,compTurn (.ListComp elt G scope pos) d (.ref it) (.ref acc) cenv=(standAt ie.pos>>=fun Z=>pyNext (.ref it)>>=fun r=>match r with
  | none=>pure (.done .next)
  | some v=>letOwnedTupleGo t (.ref it) v>>=fun Z=>assign t cenv v>>=fun Z=>v5 ifs cenv>>=fun ok=>
   (if ok=true then (T>>=fun Z=>again (.compLoop (.ListComp elt G scope pos) d (.ref it) (.ref acc) cenv))
   else again (.compLoop (.ListComp elt G scope pos) d (.ref it) (.ref acc) cenv)))) :
 ∀{items:List V} {me az:ao} {σ σ':aa} {out:List V},mW (aX C n) inner t ifs items me σ=some (out,az,σ')→me.names=names→∀{ρ:aB} {s:Shared} {xs:List Addr} {it:Addr} {eF:List V},
  gc X h₀ ρ₀ cenv me ρ σ s acc eF→cz X ρ s.heap xs it items→V.bD items=true→(∀a∈xs,h₀.objs.size≤a∧a∉lp ρ.ah)→(xs.length=1∨ez t=true)→(eF++out).length≤sizeLine→
  codeAny (model P X.w) A (.compLoop (.ListComp elt G scope pos) d (.ref it) (.ref acc) cenv) (fun r s'=>(∃f,r=.ok f)∧s8 X h₀ ρ₀ cenv me az ρ s σ' acc (eF++out) (fun a=>YC cenv me acc a∨a∈xs) s') s:=by
 intro items
 induction items with
 | nil=>
  intro me az σ σ' out h hN ρ s xs it eF I J hp hx ht hb;refine bO (jz h) ?_;rintro rfl rfl rfl;refine codeAny_of_tree ?_;show wpAny (model P X.w) A ((compTurn (.ListComp elt G scope pos) d (.ref it) (.ref acc) cenv).onRaise (fun x=>do noteFrame x cenv;theTreesLotGoes x)) _ _ s
  refine wpAny_noted ?_;rw [hturn];have hx':∀a∈xs,nB≤a∧a∉lp ρ.ah:=fun a ha=>⟨le_trans I.inf.base (hx a ha).1,(hx a ha).2⟩;refine wpAny_bind (wpAny_standAt (wpAny_bind (next_end Rm.handled J rfl hx' fun s' Qt ho hg=>wpAny_pure ⟨⟨_,rfl⟩,ρ.ah,?_,Qt.fk fun a ha=>.inr ha,rfl⟩)));have hk:∀a o,a∈xs→s.heap.get? a=some o→(∀es ep,o.data≠.dict es ep)∧∀v,o.data≠.cell v:=fun a o ha e=>by
   refine cY (jl J a ha) ?_;intro o' T vs e' c hT d;obtain rfl:=Option.some.inj (e.symm.trans e');rw [d];exact⟨fun Z Z z=>(by cases z),fun Z z=>(by cases z)⟩
  refine⟨I.inf.quiet Fi Qt hk (fun a ha=>(hx a ha).1) (uS J) ho hg,?_,by rw [append_nil];exact I.pl,I.priv,I.ge⟩
  refine aj I.list ?_;intro vs hh;refine aA hh ?_;clear hh;intro nn p;intro r;rw [append_nil];exact⟨vs,⟨nn,Qt.keep _ _ p fun z=>wk I J acc z (.inr rfl)⟩,r.mono Qt.mono (.inl rfl)⟩
 | cons v items ih=>
  intro me az σ σ' out h hN ρ s xs it eF I J hp hx ht hb;refine cps fun Z kk=>?_;refine aH h ?_;intro bu e1 h;refine aY h ?_;intro ok σ₁ e2 h;refine fL h ?_;intro out₁ fY σ₂ e3 h;refine RB h ?_;intro rest jq σ₃ e4 e5;refine kk ?_;clear kk;refine bO (Ad e5) ?_;rintro rfl rfl rfl;replace hp:=and_eq_true_iff.mp hp;refine codeAny_of_tree ?_;show wpAny (model P X.w) A ((compTurn (.ListComp elt G scope pos) d (.ref it) (.ref acc) cenv).onRaise (fun x=>do noteFrame x cenv;theTreesLotGoes x)) _ _ s
  refine wpAny_noted ?_;rw [hturn];have hx':∀a∈xs,nB≤a∧a∉lp ρ.ah:=fun a ha=>⟨le_trans I.inf.base (hx a ha).1,(hx a ha).2⟩;refine wpAny_bind (wpAny_standAt (wpAny_bind (wm (next_item (tgt:=t) I.inf.rel J rfl hx' ht (Q:=fun w s₁=>Quiet true ρ (·∈xs) s.heap s₁.heap∧s₁.os=s.os∧s₁.gens=s.gens∧VR X ρ s₁.heap w v∧cz X ρ s₁.heap xs it items)
   fun w s₁ q1 q2 q3 q4 q5=>⟨q1,q2,q3,q4,q5⟩) (fun r s₁ hr=>?_))))
  refine aj hr ?_;clear hr;rintro w rfl hr;refine wpAny_bind (wm hr (fun Z s₂ hs₂=>?_));refine CF hs₂ ?_;clear hs₂;intro Qt ho hg rv J₂;have hk:∀a o,a∈xs→s.heap.get? a=some o→(∀es ep,o.data≠.dict es ep)∧∀v,o.data≠.cell v:=fun a o ha e=>by
   refine cY (jl J a ha) ?_;intro o' T vs e' c hT d;obtain rfl:=Option.some.inj (e.symm.trans e');rw [d];exact⟨fun Z Z z=>(by cases z),fun Z z=>(by cases z)⟩
  have I₂:gc X h₀ ρ₀ cenv me ρ σ s₂ acc eF:=by
   refine⟨I.inf.quiet Fi Qt hk (fun a ha=>(hx a ha).1) (uS J) ho hg,?_,I.pl,I.priv,I.ge⟩;refine aj I.list ?_;intro vs hh;refine aA hh ?_;clear hh;intro nn p;intro r;exact⟨vs,⟨nn,Qt.keep _ _ p fun z=>wk I J acc z (.inr rfl)⟩,r.mono Qt.mono (.inl rfl)⟩
  refine wpAny_bind (xg Fi Rm.handled I₂.inf rv hp.1 e1 fun s₃ I₃ F₃ n₃=>?_);have C₃:gc X h₀ ρ₀ cenv bu ρ σ s₃ acc eF:=I₂.fk F₃ I₃;have J₃:cz X ρ s₃.heap xs it items:=J₂.fk I₂.inf.aG F₃ (qj I₂.inf) (fun a ha=>⟨fun z=>wk I₂ J₂ a ha (.inl z),(hx a ha).2⟩) hp.2;refine wpAny_bind (wm (VQ IT e2 Rm I₃.aG I₃.rel I₃.en) (fun ok' s₄ h₄=>?_));obtain⟨pS,S₄,qG,R₄,rfl⟩:=h₄;have C₄:gc X h₀ ρ₀ cenv bu ⟨pS,ρ.priv⟩ σ₁ s₄ acc eF:=C₃.fk S₄.fk (I₃.after S₄ qG R₄);have Em:∀a∈xs,h₀.objs.size≤a∧a∉lp pS:=fun a ha=>⟨(hx a ha).1,fun z=>by
   refine bG (jl J₃ a ha) ?_;intro o _ _ e _;exact absurd (S₄.cI a z (hx a ha).2) (not_le.mpr (lt_size e))⟩
  have J₄:cz X ⟨pS,ρ.priv⟩ s₄.heap xs it items:=J₃.fk I₃.aG (S₄.fk (y:=fun Z=>False)) (fun Z Z f=>f.elim) (fun a ha=>⟨id,(hx a ha).2⟩) hp.2;have F₄:FK X (fun a=>YC cenv me acc a∨a∈xs) ρ.ah pS s.heap s₄.heap:=
   ((Qt.fk fun a ha=>.inr ha).trans (F₃.weak fun a ha=>.inl (.inl ha))).trans S₄.fk
  have go:∀{fB:List (Addr×Addr)} {s₅:Shared},gc X h₀ ρ₀ cenv fY ⟨fB,ρ.priv⟩ σ₂ s₅ acc (eF++out₁)→FK X (YC cenv bu acc) pS fB s₄.heap s₅.heap→fY.names=bu.names→
   codeAny (model P X.w) A (.compLoop (.ListComp elt G scope pos) d (.ref it) (.ref acc) cenv) (fun r s'=>(∃f,r=.ok f)∧s8 X h₀ ρ₀ cenv me jq ρ s σ₃ acc (eF++(out₁++rest)) (fun a=>YC cenv me acc a∨a∈xs) s') s₅:=by
   intro fB s₅ C₅ F₅ n₅;have zd:∀a∈xs,h₀.objs.size≤a∧a∉lp fB:=fun a ha=>⟨(hx a ha).1,fun z=>by
    refine bG (jl J₄ a ha) ?_;intro o _ _ e _;exact absurd (F₅.cI a z (Em a ha).2) (not_le.mpr (lt_size e))⟩
   have J₅:cz X ⟨fB,ρ.priv⟩ s₅.heap xs it items:=J₄.fk qG F₅ (WI C₄) (fun a ha=>⟨wk C₄ J₄ a ha,(Em a ha).2⟩) hp.2;have hn:fY.names=me.names:=n₅.trans n₃;refine codeAny_mono (ih e4 (hn.trans hN) C₅ J₅ hp.2 zd ht (by rw [append_assoc];exact hb)) fun r s' hr=>?_
   obtain⟨hf,aO,C',F',n'⟩:=hr;refine⟨hf,aO,by rw [←append_assoc];exact C',?_,n'.trans hn⟩
   rw [Bl n₃] at F₅;rw [Bl hn] at F';exact (F₄.trans (F₅.weak fun a ha=>.inl ha)).trans F'
  cases ok' with
  | true=>
   simp only [if_true] at e3 ⊢;refine wpAny_bind (wm (HI e3 (n₃.trans hN) C₄ ?_) (fun Z s₅ h₅=>?_))
   ·refine le_trans ?_ hb;rw [←append_assoc,List.length_append (as:=eF++out₁)];exact le_add_right _ _
   ·obtain⟨fB,C₅,F₅,n₅⟩:=h₅;exact wpAny_pure ⟨rfl,go C₅ F₅ n₅⟩
  | false=>simp only [false_eq_true,if_false,Option.some.injEq,Prod.mk.injEq] at e3 ⊢;refine bO e3 ?_;clear e3;rintro rfl rfl rfl;exact wpAny_pure ⟨rfl,go (by rw [append_nil];exact C₄) (FK.refl _ _) rfl⟩
end
section
variable{A:Around}{s:Shared}{elt:Expr}{G:List Comprehension}{scope:Scope}{pos:Pos}{d:Nat}{it acc:Value}{env:Env}
variable{X:Ctx}{C:Calls}{k n:Nat}
theorem Cu{R:Result→Shared→Prop}(ha:(G[d]?).elim false (·.is_async != 0)=false)
 (h0:codeAny (model P X.w) A (.compLoop (.ListComp elt G scope pos) d it acc env) R s)
 (h:wpAny (model P X.w) A (pyIter it) (fun it' s'=>codeAny (model P X.w) A (.compLoop (.ListComp elt G scope pos) d it' acc env) R s')
  (notedBy (model P X.w) A env fun x s'=>R (.error x) s') s) :
 codeAny (model P X.w) A (.compStart (.ListComp elt G scope pos) d it acc env) R s:=by
 refine codeAny_of_tree ?_;show wpAny _ _ ((compStart (.ListComp elt G scope pos) d it acc env).onRaise (fun x=>do noteFrame x env;standAt theWindowsPlace)) _ _ s
 refine wpAny_notedAt ?_;unfold compStart;have hc:(clausesOf (.ListComp elt G scope pos))[d]?=G[d]?:=rfl;rw [hc,ha];refine fH rfl ?_;refine wpAny_bind (wpAny_askSetting (wpAny_ite ?_))
 split
 ·exact wpAny_bind (wpAny_pure (wpAny_pure (And.intro rfl h0)))
 ·refine wpAny_bind (wpAny_rule ?_);have fin:wpAny (model P X.w) A (pyIter it>>=fun it'=>again (.compLoop (.ListComp elt G scope pos) d it' acc env)) (fun fin s'=>match fin with | .done f=>R (.ok f) s' | .again c'=>c'.quiet=true∧codeAny (model P X.w) A c' R s') (notedBy (model P X.w) A env fun x s'=>R (.error x) s') s:=
   wpAny_bind (wm h (fun it' s' h'=>wpAny_pure (And.intro rfl h')))
  split
  ·exact wpAny_bind (wpAny_standAt fin)
  ·exact fin
theorem EO{E:Value→Shared→Prop}{ρ:aB}{xs:List Addr}{it:Addr}{us:List V}{Q:Value→Shared→Prop}(I:cz X ρ s.heap xs it us)(h:Q (.ref it) s):wpAny (model P X.w) A (pyIter (.ref it)) Q E s:=by
 cases I with
 | list a=>exact wpAny_pyIter_listiter a h
 | tuple a=>exact wpAny_pyIter_tupleiter a h
 | range a=>exact wpAny_pyIter_rangeiter a h
 | enum a=>exact wpAny_pyIter_enum a h
noncomputable def zh(elt:Expr)(G:List Comprehension)(scope:Scope)(pos:Pos)(acc:Value)(env:Env)(d:Nat):List Comprehension→Sem PUnit
 | []=>do let _ ←call (.builtin "list.append") [acc,←eval elt env]
 | ⟨_,i',_,_⟩::_=>eval i' env>>=fun x=>standAt i'.pos>>=fun Z=>foldedSetIterable i' env x>>=fun x=>holding [x] (pyIter x)>>=fun it'=>
  runOwn (.compStart (.ListComp elt G scope pos) (d+1) it' acc env) env>>=fun Z=>pure ⟨⟩
theorem Cw{t i:Expr}{ifs:List Expr}{gs:List Comprehension}(hG:G[d]?=some ⟨t,i,ifs,0⟩)(hN:G.drop (d+1)=gs)(ha:∀g∈gs,g.is_async=0) :
 compTurn (.ListComp elt G scope pos) d it acc env=(standAt i.pos>>=fun Z=>pyNext it>>=fun r=>match r with
  | none=>pure (.done .next)
  | some v=>letOwnedTupleGo t it v>>=fun Z=>assign t env v>>=fun Z=>v5 ifs env>>=fun ok=>
   (if ok=true then (zh elt G scope pos acc env d gs>>=fun Z=>again (.compLoop (.ListComp elt G scope pos) d it acc env))
   else again (.compLoop (.ListComp elt G scope pos) d it acc env))):=by
 have DT:G[d+1]?=gs[0]?:=by rw [←hN];simp
 cases gs with
 | nil=>rw [Ld hG (by simpa using DT)];rfl
 | cons g gs=>
  obtain⟨t',i',ifs',a⟩:=g;have:a=0:=ha _ mem_cons_self;subst this;rw [Le hG (by simpa using DT)]
  simp only [zh,bind_assoc,pure_bind]
  first|done|rfl
theorem yg{me:ao}{e:Expr}{σ:aa}{z:List V×aa}(h:dD (ak C n) C me e σ=some z)(env:Env)(x:Value):foldedSetIterable e env x=pure x:=by
 cases e with
 | Set=>refine aj (xx (show (ak C n me _ σ).bind _=_ from h)) ?_;intro _ e1 _;cases n<;>exact nn e1
 | _=>rfl
theorem Nf(Fi:bI X)(IH:dg X C k n)(IT:gO X C k n)(CO:bL X C k){h₀:Heap}{ρ₀:aB}{cenv:Env}{acc:Addr}{names:List (Str×NameKind)}(Rm:aT k A)
 :∀(gs:List Comprehension) (d:Nat),G.drop (d+1)=gs→(∀g∈gs,g.is_async=0)→
 Bj X h₀ ρ₀ cenv acc A names (lA (ak C n) (aX C n) C elt gs) (zh elt G scope pos (.ref acc) cenv d gs):=by
 intro gs
 induction gs with
 | nil=>
  intro d _ _ me az σ σ' out h hN E ρ s eF I hb;refine aY h ?_;intro v σ₁ e1 h;refine bJ h ?_;intro bg h;refine bO (Ad h) ?_;rintro rfl rfl rfl;show wpAny _ A (eval elt cenv>>=fun x=>call (.builtin "list.append") [.ref acc,x]>>=fun Z=>pure PUnit.unit) _ E s;refine wpAny_bind (wm (IH e1 Rm I.inf.aG I.inf.rel I.inf.en) (fun w s₁ hw=>?_));obtain⟨ah,S,Am,R,rv⟩:=hw;have C₁:gc X h₀ ρ₀ cenv me ⟨ah,ρ.priv⟩ σ₁ s₁ acc eF:=I.fk S.fk (I.inf.after S Am R);refine aj C₁.list ?_;intro vs pl rs;refine wpAny_bind (wpAny_list_append_plain pl (fun h' kQ sb=>wpAny_pure ?_) ?_)
  ·have Qt:Quiet true ⟨ah,ρ.priv⟩ (·=acc) s₁.heap h':=
    {keep:=fun a o e hne=>(sb.2 a hne).trans e
     size:=le_of_eq sb.1.symm
     ge:=fun a ha=>ha▸le_trans I.inf.base I.ge
     fX:=fun a ha q=>C₁.inf.rel.cR a q (ha▸C₁.priv)
     kind:=fun a o ha e=>by
      subst ha;refine aA pl ?_;clear pl;intro nn p;obtain rfl:=Option.some.inj (e.symm.trans p);exact .inr (.inl ⟨C₁.priv,_,_,rfl⟩) }
   refine⟨ah,⟨C₁.inf.quiet Fi (s':={ s₁ with heap:=h' }) Qt (fun a o ha e=>?_) (fun a ha=>ha▸I.ge) (fun a Z ha Z=>ha▸(let⟨nn,p⟩:=kQ;⟨_,p,.inr ⟨_,_,rfl⟩⟩)),⟨_,kQ,?_⟩,?_,C₁.priv,I.ge⟩,?_,rfl⟩
   ·subst ha;refine aA pl ?_;clear pl;intro nn p;obtain rfl:=Option.some.inj (e.symm.trans p);exact⟨fun Z Z z=>(by cases z),fun Z z=>(by cases z)⟩
   ·rw [toList_push];exact (rs.mono Qt.mono (.inl rfl)).append (.cons (rv.mono Qt.mono (.inl rfl)) .nil)
   ·rw [eX];intro u hu;rcases mem_append.mp hu with hu|hu
    ·exact eX.mp I.pl u hu
    ·simp only [mem_singleton] at hu;subst hu;exact bg
   ·exact S.fk.trans (Qt.fk fun a ha=>.inr ha)
  ·have:=rs.length;rw [List.length_append] at hb;have e2:vs.size=eF.length:=by simpa using this
   rw [e2];exact le_trans (le_add_right _ _) hb
 | cons g gs ih=>
  intro d hd ha me az σ σ' out h hN E ρ s eF I hb;obtain⟨t',i',ifs',a⟩:=g;have ha0:a=0:=ha _ mem_cons_self;subst ha0;refine bZ h ?_;intro hc h;refine aY h ?_;intro items σ₁ e1 h;have DI:G[d+1]?=some ⟨t',i',ifs',0⟩:=by
   have:(G.drop (d+1))[0]?=some ⟨t',i',ifs',0⟩:=by rw [hd];rfl
   simpa using this
  have hgs:G.drop (d+1+1)=gs:=by rw [←drop_drop,hd];rfl
  show wpAny _ A (eval i' cenv>>=fun x=>standAt i'.pos>>=fun Z=>foldedSetIterable i' cenv x>>=fun x=>holding [x] (pyIter x)>>=fun it'=>
   runOwn (.compStart (.ListComp elt G scope pos) (d+1) it' (.ref acc) cenv) cenv>>=fun Z=>pure PUnit.unit) _ E s
  refine wpAny_bind (wm (zp IH CO e1 Rm I.inf.aG I.inf.rel I.inf.en) (fun x s₁ h₁=>?_));refine wpAny_bind (wpAny_standAt ?_);rw [yg e1];refine wpAny_bind (wpAny_pure (wpAny_bind (wpAny_holding (wm h₁ (fun itv s₂ h₂=>?_)))));refine lD h₂ ?_;clear h₂;intro ah xs it J;obtain rfl:=J.eq;have C₂:gc X h₀ ρ₀ cenv me ⟨ah,ρ.priv⟩ σ₁ s₂ acc eF:=I.fk J.step.fk (I.inf.after J.step J.aG J.rel);have ht:xs.length=1∨ez t'=true:=by
   rcases J.one with h|h
   ·exact .inl h
   ·simp only [and_eq_true,h,Bool.not_true,Bool.false_or] at hc;exact .inr hc.2
  have loop:=Cx Fi IT Rm (ih (d+1) hgs fun g hg=>ha g (mem_cons_of_mem _ hg)) (fun it=>Cw (it:=.ref it) (acc:=.ref acc) (env:=cenv) (elt:=elt) (scope:=scope) (pos:=pos) DI hgs fun g hg=>ha g (mem_cons_of_mem _ hg))
   h hN C₂ J.at' J.bD (fun a hx=>⟨le_trans I.inf.step.size (J.new a hx).1,(J.new a hx).2⟩) ht hb
  refine wpAny_bind (wpAny_runOwn ?_);rw [Around.mark_none];refine codeAny_mono (Cu (by rw [DI];rfl) loop (EO J.at' loop)) fun r s' hr=>?_
  obtain⟨⟨f,rfl⟩,aO,C',F',n'⟩:=hr;refine wpAny_pure ⟨aO,C',?_,n'⟩;refine (J.step.fk.trans F').drop fun b hb=>?_;rcases hb with hb|hb
  ·exact .inl hb
  ·exact .inr (J.new b hb).1
end
section
variable{scope:Scope}{env:Env}{x:Str}{ρ:aB}{h h':Heap}{q p:List Addr}{σ:aa}{ah:List (Addr×Addr)}{A:Around}{E:Value→Shared→Prop}{s:Shared}{me:ao}
variable{X:Ctx}{C:Calls}{k n:Nat}
theorem K5(H:∀p∈scope.names,p.2=.free→∃c,env.cells.lookup p.1=some c) :
 ∃cl,closureFor scope env=pure cl∧(∀x c,(x,c)∈cl→env.cells.lookup x=some c)∧(∀p∈scope.names,p.2=.free→∃c,cl.lookup p.1=some c)∧(∀x c,(x,c)∈cl→(x,NameKind.free)∈scope.names):=by
 have go:∀(names:List (Str×NameKind)) (acc:List (Str×Addr)),(∀p∈names,p.2=.free→∃c,env.cells.lookup p.1=some c)→(∀x c,(x,c)∈acc→env.cells.lookup x=some c)→
  ∃cl,(forIn names acc (fun (p:Str×NameKind) cs=>if p.2==.free then (do let a ←cellOf env p.1;pure (.yield ((p.1,a)::cs))) else pure (.yield cs)):Sem (List (Str×Addr)))=pure cl∧
   (∀x c,(x,c)∈cl→env.cells.lookup x=some c)∧(∀p∈names,p.2=.free→∃c,(p.1,c)∈cl)∧(∀p∈acc,p∈cl)∧∀p∈cl,p∈acc∨(p.1,NameKind.free)∈names:=by
  intro names
  induction names with
  | nil=>intro acc _ ha;exact⟨acc,rfl,ha,by simp,fun p hp=>hp,fun p hp=>.inl hp⟩
  | cons p names ih=>
   intro acc hn ha;rw [forIn_cons]
   by_cases hf:p.2=.free
   ·refine aA (hn p mem_cons_self hf) ?_;intro c hc;obtain⟨cl,e,h1,h2,h3,h4⟩:=ih ((p.1,c)::acc) (fun q hq=>hn q (mem_cons_of_mem _ hq)) (fun x c' hm=>by
     rcases mem_cons.mp hm with e|hm
     ·cases e;exact hc
     ·exact ha x c' hm)
    refine⟨cl,?_,h1,fun q hq uJ=>?_,fun q hq=>h3 q (mem_cons_of_mem _ hq),fun q hq=>?_⟩
    ·have:cellOf env p.1=pure c:=by unfold cellOf;rw [hc]
     simp only [hf,beq_self_eq_true,if_true,this,pure_bind];exact e
    ·rcases mem_cons.mp hq with rfl|hq
     ·exact⟨c,h3 _ mem_cons_self⟩
     ·exact h2 q hq uJ
    ·rcases h4 q hq with h|h
     ·rcases mem_cons.mp h with rfl|h
      ·refine .inr (mem_cons.mpr (.inl ?_));rw [←hf]
      ·exact .inl h
     ·exact .inr (mem_cons_of_mem _ h)
   ·refine qW (ih acc (fun q hq=>hn q (mem_cons_of_mem _ hq)) ha) ?_;intro cl e h1 h2 h3 h4;refine⟨cl,?_,h1,fun q hq uJ=>?_,h3,fun q hq=>(h4 q hq).imp id fun h=>mem_cons_of_mem _ h⟩
    ·have:(p.2==NameKind.free)=false:=by simpa using hf
     simp only [this,false_eq_true,if_false,pure_bind];exact e
    ·rcases mem_cons.mp hq with rfl|hq
     ·exact absurd uJ hf
     ·exact h2 q hq uJ
 refine qW (go scope.names [] H (by simp)) ?_;intro cl e h1 h2 _ h4
 refine⟨cl,?_,h1,fun p hp hf=>?_,fun x c hm=>?_⟩
 ·unfold closureFor;show ((forIn scope.names [] (fun (p:Str×NameKind) cs=>if p.2==.free then (do let a ←cellOf env p.1;pure (.yield ((p.1,a)::cs))) else pure (.yield cs)):Sem (List (Str×Addr)))>>=fun cs=>pure cs)=_
  rw [e,pure_bind]
 ·refine aA (h2 p hp hf) ?_;intro c hc;cases hl:cl.lookup p.1 with
  | some c=>exact⟨c,rfl⟩
  | none=>rw [lookup_eq_none_iff] at hl;have:=hl _ hc;simp at this
 ·rcases h4 _ hm with h|h
  ·simp at h
  ·exact h
theorem Q2{kd:NameKind}:∀{names:List (Str×NameKind)},names.lookup x=some kd→
 (names.map fun (n,k)=>if (k==NameKind.free&&env.scope.kind==.function&&env.kindOf n==some .cell) then (n,NameKind.cell) else (n,k)).lookup x=some kd∨
 (kd=.free∧(names.map fun (n,k)=>if (k==NameKind.free&&env.scope.kind==.function&&env.kindOf n==some .cell) then (n,NameKind.cell) else (n,k)).lookup x=some .cell):=by
 intro names
 induction names with
 | nil=>intro h;simp at h
 | cons hd0 r rc=>
  obtain⟨m,kk⟩:=hd0;intro h;have ih:=rc;simp only [map_cons];rw [lookup_cons] at h
  by_cases hc:(kk==NameKind.free&&env.scope.kind==.function&&env.kindOf m==some .cell)=true
  ·rw [if_pos hc];cases hx:x==m with
   | true=>rw [hx] at h;cases h;simp only [and_eq_true] at hc;exact .inr ⟨by simpa using hc.1.1,by simp [lookup_cons,hx]⟩
   | false=>rw [hx] at h;simp only [lookup_cons,hx];exact ih h
  ·rw [if_neg hc];cases hx:x==m with
   | true=>rw [hx] at h;cases h;exact .inl (by simp [lookup_cons,hx])
   | false=>rw [hx] at h;simp only [lookup_cons,hx];exact ih h
theorem pg{cl:Bool}(G:aM h h')(hq:∀a∈q,h.objs.size≤a):bS cl ρ ⟨ρ.ah,q++ρ.priv⟩ h h' where
 keep:=fun a o e Z Z=>G.keep a o e
 pre:=prefix_refl _
 fresh:=fun a ha hn=>by
  rcases aI.mp ha with z|z
  ·exact absurd ((aI (ρ:=ρ)).mpr (.inl z)) hn
  ·rcases mem_append.mp z with z|z
   ·exact hq a z
   ·exact absurd ((aI (ρ:=ρ)).mpr (.inr z)) hn
theorem Rel.enter(R:Rel X ρ σ h)(G:aM h h')(hq:∀a∈q,h.objs.size≤a∧a<h'.objs.size)(hB:nB≤h.objs.size):Rel X ⟨ρ.ah,q++ρ.priv⟩ σ h' where
 len:=R.len
 obj:=fun i p m e1 e2=>by
  refine (R.obj i p m e1 e2).mono (pg G fun a ha=>(hq a ha).1) fun a ha=>?_;refine aA (R.own (dj.mpr ⟨p,mem_of_getElem? e1,ha⟩)) ?_;intro o e;rw [e,G.keep a o e]
 apart:=R.apart
 cR:=fun a ha hm=>by
  rcases mem_append.mp hm with z|z
  ·exact absurd (R.lt a (aI.mpr (.inl ha))) (not_lt.mpr (hq a z).1)
  ·exact R.cR a ha z
 lt:=fun a ha=>by
  rcases aI.mp ha with z|z
  ·exact lt_of_lt_of_le (R.lt a (aI.mpr (.inl z))) G.size
  ·rcases mem_append.mp z with z|z
   ·exact (hq a z).2
   ·exact lt_of_lt_of_le (R.lt a (aI.mpr (.inr z))) G.size
 ge:=fun a ha=>by
  rcases aI.mp ha with z|z
  ·exact R.ge a (aI.mpr (.inl z))
  ·rcases mem_append.mp z with z|z
   ·exact le_trans hB (hq a z).1
   ·exact R.ge a (aI.mpr (.inr z))
theorem pT{cl:Bool}(h:Heap)(hq:∀a∈p,a∈q):bS cl ⟨ah,q⟩ ⟨ah,p⟩ h h where
 keep:=fun a o e Z Z=>e
 pre:=prefix_refl _
 fresh:=fun a ha hn=>by
  rcases aI.mp ha with z|z
  ·exact absurd ((aI (ρ:=⟨ah,q⟩)).mpr (.inl z)) hn
  ·exact absurd ((aI (ρ:=⟨ah,q⟩)).mpr (.inr (hq a z))) hn
theorem Rel.leave(R:Rel X ⟨ah,q⟩ σ h)(hq:∀a∈p,a∈q):Rel X ⟨ah,p⟩ σ h where
 len:=R.len
 obj:=fun i r m e1 e2=>(R.obj i r m e1 e2).mono (pT h hq) fun Z Z=>rfl
 apart:=R.apart
 cR:=fun a ha hm=>R.cR a ha (hq a hm)
 lt:=fun a ha=>R.lt a (by
  rcases aI.mp ha with z|z
  ·exact aI.mpr (.inl z)
  ·exact aI.mpr (.inr (hq a z)))
 ge:=fun a ha=>R.ge a (by
  rcases aI.mp ha with z|z
  ·exact aI.mpr (.inl z)
  ·exact aI.mpr (.inr (hq a z)))
theorem FK.toStep{l':List (Addr×Addr)}(F:FK X (fun Z=>False) ρ.ah l' h h'):Step X ρ ⟨l',ρ.priv⟩ h h' where
 keep:=fun a o e t l=>F.keep a o e t l id
 pre:=F.pre
 cI:=F.cI
 fresh:=fun a ha hn=>by
  rcases aI.mp ha with z|z
  ·exact F.cI a z fun y=>hn (aI.mpr (.inl y))
  ·exact absurd ((aI (ρ:=ρ)).mpr (.inr z)) hn
 size:=F.size
theorem xH:∀(names:List (Str×NameKind)) (n:Nat) (acc:List (Str×Addr)),cellsFrom n names acc=cellsFrom n names []++acc:=by
 intro names
 induction names with
 | nil=>intro _ _;exact rfl
 | cons hd0 r rc=>
  obtain⟨name,kind⟩:=hd0;intro n acc;unfold cellsFrom
  split
  ·rw [rc (n+1) ((name,n)::acc),rc (n+1) [(name,n)],append_assoc];rfl
  ·exact rc n acc
theorem Cg{c:Addr}:∀(names:List (Str×NameKind)) (n:Nat),(x,c)∈cellsFrom n names []→(x,NameKind.cell)∈names:=by
 intro names
 induction names with
 | nil=>intro _ h;simp [cellsFrom] at h
 | cons hd0 r rc=>
  obtain⟨name,kind⟩:=hd0;intro n h;unfold cellsFrom at h
  split at h
  ·rename_i hk;rw [xH] at h;rcases mem_append.mp h with h|h
   ·exact mem_cons_of_mem _ (rc _ h)
   ·simp only [mem_singleton,Prod.mk.injEq] at h;have:kind=.cell:=by simpa using hk
    rw [this,h.1];exact mem_cons_self
  ·exact mem_cons_of_mem _ (rc _ h)
theorem R7{globals:Addr}{cl:List (Str×Addr)}{qual:Str}{outer:Env}{Q:Env→Shared→Prop}
 (hQ:∀h',aM (s.heap.push { cls:=.type "dict",data:=.dict #[] }) h'→h'.Ns s.heap.objs.size (fun Z=>none)→CellsOk h' (s.heap.objs.size+1) (cellsFrom (s.heap.objs.size+1) scope.names [])→
  Q (newEnv scope s.heap.objs.size globals (cellsFrom (s.heap.objs.size+1) scope.names []++cl) qual none .none (some outer) builtinsNs) { s with heap:=h' }) :
 wpAny (model P X.w) A (newFunctionEnv scope globals cl [] qual none .none (some outer)) Q E s:=by
 simp only [newFunctionEnv,Option.isSome_some,if_true];refine wpAny_bind (wpAny_alloc ?_);refine wpAny_bind (wpAny_layCells _ (fun name kind cells=>by cases hkc:kind==NameKind.cell<;>simp [hkc]) _ _ _ _ ?_)
 have ok:=cellsFrom_ok scope.names (s.heap.push { cls:=.type "dict",data:=.dict #[] }) (s.heap.objs.size+1) [] ⟨fun Z Z hm=>(nomatch hm),Pairwise.nil⟩ (by rw [size_push];exact le_refl _)
 rw [size_push] at ok;rw [show ({ s with heap:=s.heap.push { cls:=.type "dict",data:=.dict #[] } }:Shared).heap.objs.size=s.heap.objs.size+1 from size_push ..,xH]
 refine wpAny_bind ?_;refine wpAny_pure ?_;refine wpAny_pure ?_;refine hQ _ ⟨pushCells_keeps _ _,?_⟩ ((Heap.Ns.new s.heap (.type "dict")).keeps (pushCells_keeps _ _)) ok;have go:∀(names:List (Str×NameKind)) (h:Heap),h.objs.size≤(pushCells h names).objs.size:=by
  intro names
  induction names with
  | nil=>intro h;exact le_refl _
  | cons p r ih=>
   intro h;obtain⟨x,kd⟩:=p;unfold pushCells
   split
   ·exact le_trans (by rw [size_push];exact le_succ _) (ih _)
   ·exact ih h
 exact go _ _
theorem rP{u:V}(hu:∀p∈scope.names,scope.names.lookup p.1=some p.2)(h:(eW scope me).vars x=some u):scope.names.lookup x=some .free∧me.vars x=some u:=by
 have hm:=mem_of_lookup (show (scope.names.filterMap fun p=>if p.2==.free then (me.vars p.1).map fun u=>(p.1,u) else none).lookup x=some u from h)
 refine aj (List.mem_filterMap.mp hm) ?_;intro p hp he;refine bZ he ?_;clear he;intro hf he
 ·simp only [map_eq_some_iff,Prod.mk.injEq] at he;refine bQ he ?_;clear he;rintro w hw rfl rfl;refine⟨?_,hw⟩;rw [hu p hp];exact congrArg some (by simpa using hf)
structure CompEnd(X:Ctx)(ρ:aB)(s:Shared)(σ':aa)(out:List V)(acc B:Addr)(s':Shared)(ah:List (Addr×Addr)):Prop where
 step:Step X ρ ⟨ah,ρ.priv⟩ s.heap s'.heap
 aG:aq X s'
 rel:Rel X ⟨ah,ρ.priv⟩ σ' s'.heap
 val:VR X ⟨ah,ρ.priv⟩ s'.heap (.ref acc) (.lst out)
 ns:∃m,s'.heap.Ns B m
 ge:s.heap.objs.size≤B
 vj:B∉fp ⟨ah,ρ.priv⟩
 WR:s.heap.objs.size≤acc
 ne:acc≠B
 pl:V.bD out=true
theorem Cy(Fi:bI X)(IH:dg X C k n)(IT:gO X C k n)(CO:bL X C k){elt t it:Expr}{ifs:List Expr}{gs:List Comprehension}{pos pos':Pos}{fY:ao}{σ₁ σ₂:aa}{items out:List V}
 (hc:i7 me scope=true) (ha:∀g∈gs,g.is_async=0) (he:fP C me it=true→ez t=true) (h1:dD (ak C n) C me it σ=some (items,σ₁))
 (h2:mW (aX C n) (lA (ak C n) (aX C n) C elt gs) t ifs items (eW scope me) σ₁=some (out,fY,σ₂)) (hb:out.length≤sizeLine)
  {use:Option (Value→Sem Unit)} {Q:Value→Shared→Prop} (Rm:aT k A) (Am:aq X s) (R:Rel X ρ σ s.heap) (H:b5 X ρ env me s.heap)
 (hQ:∀acc B s' ah,CompEnd X ρ s σ₂ out acc B s' ah→∀f,compPost (model P X.w) A E use Q (.ref acc) B (.ok f) s') :
 wpAny (model P X.w) A (comprehension (.ListComp elt (⟨t,it,ifs,0⟩::gs) scope pos) scope env pos' (newList []) false (eval it env) use) Q E s:=by
 simp only [i7,and_eq_true,all_eq_true,or_eq_true] at hc;refine au hc ?_;clear hc;intro hh;refine au hh ?_;clear hh;intro hkind hnames;intro hpl;have hkind:scope.kind=.function:=by simpa using hkind
 have hfree:∀p∈scope.names,p.2=.free→me.names.lookup p.1=some .cell∨me.names.lookup p.1=some .free:=by
  intro p hp hf;rcases (hnames p hp).2 with ((h|h)|h)|h
  ·rw [hf] at h;cases h
  ·rw [hf] at h;cases h
  ·rw [hf] at h;cases h
  ·simpa using h.2
 have kB:∀p∈scope.names,scope.names.lookup p.1=some p.2:=fun p hp=>by simpa using (hnames p hp).1
 have hplain:∀x y u,scope.names.lookup x=some .cell→scope.names.lookup y=some .free→me.vars y=some u→u.plain=true:=by
  intro x y u hx hy hu;rcases hpl with h|h
  ·have:=h _ (mem_of_lookup hx);simp at this
  ·rcases h _ (mem_of_lookup hy) with h|h
   ·simp at h
   ·simpa [hu] using h
 obtain⟨cl,hcl,pF,NU,NT⟩:=K5 (scope:=scope) (env:=env) fun p hp hf=>by
  rcases hfree p hp hf with h|h
  ·refine bK (H.cell p.1 _ h (.inl rfl)) ?_;intro c ov e _;exact⟨c,e⟩
  ·refine bK (H.cell p.1 _ h (.inr rfl)) ?_;intro c ov e _;exact⟨c,e⟩
 refine wpAny_comprehension_free (cl:=cl) rfl (yg h1 env) hcl hkind (fun p hp hl=>hl▸kB p hp) ?_;refine wm (zp IH CO h1 Rm Am R H) (fun x s₁ hx=>wm hx (fun itv s₂ hI=>?_));refine lD hI ?_;clear hI;intro ah xs EM J;obtain rfl:=J.eq;have H₂:=H.step Am R J.step rfl;refine wpAny_newObj_type (R7 fun h' G2 hns hok=>?_);dsimp only at hns G2 hok ⊢;generalize hacc:s₂.heap.objs.size=acc at *;generalize hL:(s₂.heap.push { cls:=.type "list",dict:=none,data:=.seq ([]:List Value).toArray }).objs.size=L at *;have iJ:L=acc+1:=by rw [←hL,size_push,hacc]
 have G1:=aM.push s₂.heap { cls:=.type "list",dict:=none,data:=.seq ([]:List Value).toArray };have G3:=aM.push (s₂.heap.push { cls:=.type "list",dict:=none,data:=.seq ([]:List Value).toArray }) { cls:=.type "dict",data:=.dict #[] };have G:=(G1.trans G3).trans G2;have hsz:acc+2≤h'.objs.size:=by
  have:=G2.size;rw [size_push,size_push,hacc] at this;exact this
 have hpl:PL h' acc #[]:=⟨0,G2.keep _ _ (G3.keep _ _ (by rw [←hacc];exact get?_push_size _ rfl))⟩
 have hq:∀a∈[L,acc],s₂.heap.objs.size≤a∧a<h'.objs.size:=by
  intro a ha;rw [hacc];simp only [mem_cons,not_mem_nil,or_false] at ha;rcases ha with rfl|rfl
  ·rw [iJ];exact⟨le_succ _,lt_of_lt_of_le (lt_succ_self _) hsz⟩
  ·exact⟨le_refl _,lt_of_lt_of_le (lt_succ_of_lt (lt_succ_self _)) hsz⟩
 have Nk:nB≤s₂.heap.objs.size:=J.aG.size;have Nz:∀c,c<s₂.heap.objs.size→c∉fp ⟨ah,ρ.priv⟩→c∉fp ⟨ah,[L,acc]++ρ.priv⟩:=by
  intro c hlt hn hm;rcases aI.mp hm with z|z
  ·exact hn (aI.mpr (.inl z))
  ·rcases mem_append.mp z with z|z
   ·exact absurd (hq c z).1 (not_le.mpr hlt)
   ·exact hn (aI.mpr (.inr z))
 have NB:∀c,L+1≤c→c∉fp ⟨ah,[L,acc]++ρ.priv⟩:=by
  intro c hge hm;have hs2:s₂.heap.objs.size≤c:=by rw [hacc];rw [iJ] at hge;exact le_trans (le_succ_of_le (le_succ _)) hge
  rcases aI.mp hm with z|z
  ·exact absurd (J.rel.lt c (aI.mpr (.inl z))) (not_lt.mpr hs2)
  ·rcases mem_append.mp z with z|z
   ·simp only [mem_cons,not_mem_nil,or_false] at z;rcases z with rfl|rfl
    ·exact absurd hge (not_le.mpr (lt_succ_self _))
    ·rw [iJ] at hge;exact absurd hge (not_le.mpr (lt_succ_of_lt (lt_succ_self _)))
   ·exact absurd (J.rel.lt c (aI.mpr (.inr z))) (not_lt.mpr hs2)
 have gM:∀{cl:Bool},bS cl ⟨ah,ρ.priv⟩ ⟨ah,[L,acc]++ρ.priv⟩ s₂.heap h':=pg (ρ:=⟨ah,ρ.priv⟩) G fun a ha=>(hq a ha).1;have WO:∀x c,(cellsFrom (L+1) scope.names []++cl).lookup x=some c→((x,c)∈cellsFrom (L+1) scope.names []∧scope.names.lookup x=some .cell)∨env.cells.lookup x=some c:=by
  intro x c hx;rcases mem_append.mp (mem_of_lookup hx) with hm|hm
  ·exact .inl ⟨hm,kB _ (Cg _ _ hm)⟩
  ·exact .inr (pF _ _ hm)
 have KY:∀x,scope.names.lookup x=some .free→∃c,(cellsFrom (L+1) scope.names []++cl).lookup x=some c∧env.cells.lookup x=some c:=by
  intro x hx;refine aA (NU _ (mem_of_lookup hx) rfl) ?_;intro c hc;have hn:(cellsFrom (L+1) scope.names []).lookup x=none:=by
   cases e:(cellsFrom (L+1) scope.names []).lookup x with
   | none=>rfl
   | some c'=>have:=kB _ (Cg _ _ (mem_of_lookup e));have h3:scope.names.lookup x=some .cell:=this;rw [hx] at h3;cases h3
  exact⟨c,by rw [List.lookup_append,hn];exact hc,pF _ _ (mem_of_lookup hc)⟩
 have Cf:∀x,scope.names.lookup x=some .cell→∃c,(cellsFrom (L+1) scope.names []++cl).lookup x=some c∧(x,c)∈cellsFrom (L+1) scope.names []:=by
  intro x hx;cases e:(cellsFrom (L+1) scope.names []).lookup x with
  | some c'=>exact⟨c',by rw [List.lookup_append,e];rfl,mem_of_lookup e⟩
  | none=>
   exfalso;obtain⟨c,hc⟩:∃c,(x,c)∈cellsFrom (L+1) scope.names []:=by
    have:∀(names:List (Str×NameKind)) n,(x,NameKind.cell)∈names→∃c,(x,c)∈cellsFrom n names []:=by
     intro names
     induction names with
     | nil=>intro n h;simp at h
     | cons p r ih=>
      intro n h;obtain⟨y,kd⟩:=p;unfold cellsFrom
      split
      ·rw [xH];rcases mem_cons.mp h with h|h
       ·cases h;exact⟨n,by simp⟩
       ·refine aA (ih (n+1) h) ?_;intro c hc;exact⟨c,by simp [hc]⟩
      ·rename_i hk;rcases mem_cons.mp h with h|h
       ·cases h;simp at hk
       ·exact ih n h
    exact this _ _ (mem_of_lookup hx)
   rw [lookup_eq_none_iff] at e;have:=e _ hc;simp at this
 have CS:∀x c,scope.names.lookup x=some .free→env.cells.lookup x=some c→c<s₂.heap.objs.size:=by
  intro x c hx hc;have hfr:∃kd,me.names.lookup x=some kd∧(kd=.cell∨kd=.free):=by
   rcases hfree _ (mem_of_lookup hx) rfl with h|h
   ·exact⟨_,h,.inl rfl⟩
   ·exact⟨_,h,.inr rfl⟩
  refine aj hfr ?_;clear hfr;intro zq hk1 hk2;refine bV (H₂.cell x zq hk1 hk2) ?_;intro c' ov e1 e2 hh;refine aj hh ?_;clear hh;intro o eo d;intro e4;have:c=c':=by rw [hc] at e1;exact Option.some.inj e1
  rw [this];exact lt_size eo
 have Ci:∀x c,(x,c)∈cl→scope.names.lookup x=some .free:=by
  intro x c hm;have hx:=NT _ _ hm;exact kB (x,.free) hx
 have D3:∀tk,gc X s.heap ρ { newEnv scope L env.globals (cellsFrom (L+1) scope.names []++cl) env.qual none .none (some env) builtinsNs with scope:=relabel scope env } (eW scope me) ⟨ah,[L,acc]++ρ.priv⟩ σ₁ { s₂ with heap:=h',toks:=tk } acc []:=by
  intro tk;refine⟨⟨J.aG.grown G,J.rel.enter G hq Nk,?_,J.step.trans (G.step _),Am.size,?_,fun x c hx hc=>?_⟩,⟨#[],hpl,.nil⟩,rfl,by simp,by rw [←hacc];exact J.step.size⟩
  ·refine { kind:=hkind,globals:=H.globals,builtins:=H.builtins,code:=H.code,qual:=H.qual,names:=fun x kd hx=>?_,loc:=⟨_,hns,fun x u hx hu=>?_⟩,cell:=fun x kd hx hkd=>?_,priv:=by simp [newEnv],pl:=fun⟨x,hx⟩ y u Z hu=>?_,inj:=fun x y c hx hy=>?_,pv:=fun a ha=>?_ }
   ·exact Q2 hx
   ·have hx':scope.names.lookup x=some .local :=hx;have:=(rP kB hu).1;rw [hx'] at this;simp at this
   ·have hx':scope.names.lookup x=some kd:=hx;rcases hkd with rfl|rfl
    ·refine aj (Cf x hx') ?_;intro c hc1 hc2;have hce:=hok.empty x c hc2;refine⟨c,none,hc1,NB c hce.2,hce.1,fun u hu=>?_⟩;have:=(rP kB hu).1;rw [hx'] at this;simp at this
    ·refine aj (KY x hx') ?_;intro c' hc' hce;have hfr:∃kd,me.names.lookup x=some kd∧(kd=.cell∨kd=.free):=by
      rcases hfree _ (mem_of_lookup hx') rfl with h|h
      ·exact⟨_,h,.inl rfl⟩
      ·exact⟨_,h,.inr rfl⟩
     refine aj hfr ?_;clear hfr;intro zq hk1 hk2;refine bV (H₂.cell x zq hk1 hk2) ?_;intro c ov e1 e2 hh;refine aj hh ?_;clear hh;intro o eo d;intro e4;have:c'=c:=by rw [e1] at hce;exact (Option.some.inj hce).symm
     subst this;refine⟨c',ov,hc',Nz _ (lt_size eo) e2,⟨o,G.keep _ _ eo,d⟩,fun u hu=>?_⟩;have OQ:me.vars x=some u:=(rP kB hu).2;refine aj (e4 u OQ) ?_;intro v q1 q2;exact⟨v,q1,q2.mono (gM (cl:=true)) (.inl rfl)⟩
   ·have hx':scope.names.lookup x=some .cell:=hx;exact hplain x y u hx' (rP kB hu).1 (rP kB hu).2
   ·have hx':=mem_append.mp (mem_of_lookup hx);have hy':=mem_append.mp (mem_of_lookup hy);rcases hx' with h3|h3<;>rcases hy' with h4|h4
    ·exact name_of_addr hok.apart h3 h4
    ·exfalso;have h5:=CS y c (Ci y c h4) (pF _ _ h4);have h6:=(hok.empty x c h3).2;rw [hacc] at h5;rw [iJ] at h6;exact absurd (lt_of_lt_of_le h5 (le_succ_of_le (le_succ _))) (not_lt.mpr h6)
    ·exfalso;have h5:=CS x c (Ci x c h3) (pF _ _ h3);have h6:=(hok.empty y c h4).2;rw [hacc] at h5;rw [iJ] at h6;exact absurd (lt_of_lt_of_le h5 (le_succ_of_le (le_succ _))) (not_lt.mpr h6)
    ·exact H.inj x y c (pF _ _ h3) (pF _ _ h4)
   ·rcases mem_append.mp ha with h3|h3
    ·simp only [mem_cons,not_mem_nil,or_false] at h3;rcases h3 with rfl|rfl
     ·refine dw hns ?_;clear hns;intro o' es ep e' d' _;exact⟨o',e',.inl ⟨_,_,d'⟩⟩
     ·refine aA hpl ?_;clear hpl;intro nn p;exact⟨_,p,.inr ⟨_,_,rfl⟩⟩
    ·exact (H₂.pv a h3).keep fun o e=>G.keep a o e
  ·show s.heap.objs.size≤L;rw [iJ,←hacc];exact le_succ_of_le J.step.size
  ·have hx':scope.names.lookup x=some .cell:=hx;refine aj (Cf x hx') ?_;intro c' hc1 hc2;have:c=c':=by
    have h3:(cellsFrom (L+1) scope.names []++cl).lookup x=some c:=hc;rw [hc1] at h3;exact (Option.some.inj h3).symm
   have h6:=(hok.empty x c' hc2).2;rw [this];refine le_trans ?_ h6;rw [iJ,←hacc];exact le_succ_of_le (le_succ_of_le J.step.size)
 have Np:(⟨t,it,ifs,0⟩::gs:List Comprehension)[0]?=some ⟨t,it,ifs,0⟩:=rfl;have ht:xs.length=1∨ez t=true:=J.one.imp id he;have hJ:∀tk,cz X ⟨ah,[L,acc]++ρ.priv⟩ ({ s₂ with heap:=h',toks:=tk }:Shared).heap xs EM items:=fun tk=>J.at'.mono (gM (cl:=false)) (fun a Z o e=>G.keep a o e) J.bD
 have loop:=Cx Fi IT Rm (Nf Fi IH IT CO Rm gs 0 (G:=⟨t,it,ifs,0⟩::gs) (elt:=elt) (scope:=scope) (pos:=pos) (h₀:=s.heap) (ρ₀:=ρ) (acc:=acc) (names:=scope.names)
  (cenv:={ newEnv scope L env.globals (cellsFrom (L+1) scope.names []++cl) env.qual none .none (some env) builtinsNs with scope:=relabel scope env }) rfl ha)
  (fun Qq=>Cw (it:=.ref Qq) (acc:=.ref acc) (elt:=elt) (scope:=scope) (pos:=pos) Np rfl ha) h2 rfl (D3 s₂.toks) (hJ _) J.bD
  J.new ht (by simpa using hb)
 refine codeAny_mono (Cu rfl loop (EO (hJ _) loop)) fun r s' hr=>?_;obtain⟨⟨f,rfl⟩,aO,C',F',n'⟩:=hr;have O0:∀b,(YC { newEnv scope L env.globals (cellsFrom (L+1) scope.names []++cl) env.qual none .none (some env) builtinsNs with scope:=relabel scope env } (eW scope me) acc b∨b∈xs)→s.heap.objs.size≤b:=by
  have Nv:s.heap.objs.size≤L:=by rw [iJ,←hacc];exact le_succ_of_le J.step.size
  intro b hb;rcases hb with hb|hb
  ·rcases hb with hb|hb
   ·rcases hb with hb|⟨x,hx,hc⟩
    ·have:b=L:=hb;rw [this];exact Nv
    ·exact (D3 s₂.toks).inf.gw x b hx hc
   ·rw [hb,←hacc];exact J.step.size
  ·exact (J.new b hb).1
 have F:=((J.step.fk.trans (G.step ⟨ah,ρ.priv⟩).fk).trans F').drop (y:=fun Z=>False) fun b hb=>.inr (O0 b hb);have hsub:∀a∈ρ.priv,a∈[L,acc]++ρ.priv:=fun a ha=>mem_append_right _ ha;refine aj C'.list ?_;intro vs pl rs;have yq:s.heap.objs.size≤acc:=by rw [←hacc];exact J.step.size
 have DR:s.heap.objs.size≤L:=by rw [iJ];exact le_succ_of_le yq
 have FW:∀a,s.heap.objs.size≤a→a∈[L,acc]→a∉fp ⟨aO,ρ.priv⟩:=by
  intro a h3 ha hm;rcases aI.mp hm with z|z
  ·exact C'.inf.rel.cR a z (List.mem_append_left _ ha)
  ·exact absurd (R.lt a (aI.mpr (.inr z))) (not_lt.mpr h3)
 refine aj C'.inf.en.loc ?_;intro m' hm' _;refine hQ acc L s' aO ⟨F.toStep,C'.inf.aG,C'.inf.rel.leave hsub,.lst pl (FW acc yq (by simp)) (rs.mono (pT (cl:=true) _ hsub) (.inl rfl)),⟨m',hm'⟩,DR,FW L DR (by simp),yq,?_,C'.pl⟩ f
 rw [iJ];exact ne_of_lt (lt_succ_self _)
end
section
variable{ρ:aB}{s:Shared}{σ' σ:aa}{h' h:Heap}{p:Addr×Addr}{m:bY}{op:CmpOp}{r:Expr}{me:ao}{env:Env}{A:Around}{E:Value→Shared→Prop}{pos:Pos}{u:V}
variable{X:Ctx}{C:Calls}{k n:Nat}
theorem CompEnd.same(Fi:bI X){s':Shared}{out:List V}{acc B:Addr}{ah:List (Addr×Addr)}(Am:aq X s)(e:CompEnd X ρ s σ' out acc B s' ah)(sb:SameBut B s'.heap h') :
 aD X ρ s σ' (.lst out) (.ref acc) { s' with heap:=h' }:=by
 refine tW e.ns ?_;intro m o es ep eo d _;have Qt:Quiet true ⟨ah,ρ.priv⟩ (·=B) s'.heap h':=
  {keep:=fun a o e hne=>(sb.2 a hne).trans e
   size:=le_of_eq sb.1.symm
   ge:=fun a ha=>ha▸le_trans Am.size e.ge
   fX:=fun a ha q=>e.vj (aI.mpr (.inl (ha▸q)))
   kind:=fun a o' ha e'=>by
    subst ha;obtain rfl:=Option.some.inj (e'.symm.trans eo);refine .inl ⟨fun hv=>?_,fun ps hp=>?_⟩
    ·rcases hv with⟨xs,n,y⟩|⟨_,⟨fd,y⟩|⟨w,y⟩|⟨ws,_,_,y,_⟩⟩<;>(rw [d] at y;cases y)
    ·rw [hp] at d;cases d }
 exact⟨ah,e.step.quiet Qt fun a ha=>ha▸e.ge,e.aG.quiet Fi.size Qt,e.rel.quiet Qt,e.val.mono Qt.mono (.inl rfl)⟩
theorem vh{cl:Bool}(G:aM h h')(h1:h.objs.size≤p.1)(h2:h.objs.size≤p.2):bS cl ρ ⟨ρ.ah++[p],ρ.priv⟩ h h' where
 keep:=fun a o e Z Z=>G.keep a o e
 pre:=List.prefix_append _ _
 fresh:=fun a ha hn=>by
  rcases aI.mp ha with z|z
  ·rw [pW] at z;rcases mem_append.mp z with z|z
   ·exact absurd ((aI (ρ:=ρ)).mpr (.inl z)) hn
   ·refine aj (dj.mp z) ?_;intro q hq je;simp only [mem_singleton] at hq;subst hq;rcases je with rfl|rfl
    ·exact h1
    ·exact h2
  ·exact absurd ((aI (ρ:=ρ)).mpr (.inr z)) hn
theorem Rel.more(R:Rel X ρ σ h)(G:aM h h')(hB:nB≤h.objs.size)(h1:h.objs.size≤p.1∧p.1<h'.objs.size)(h2:h.objs.size≤p.2∧p.2<h'.objs.size)
 (ho:dX X ⟨ρ.ah++[p],ρ.priv⟩ h' p m):Rel X ⟨ρ.ah++[p],ρ.priv⟩ (σ++[m]) h' where
 len:=by simp [R.len]
 obj:=fun i q m' e1 e2=>by
  by_cases hi:i<ρ.ah.length
  ·rw [getElem?_append_left hi] at e1;rw [getElem?_append_left (R.len▸hi)] at e2;refine (R.obj i q m' e1 e2).mono (vh G h1.1 h2.1) fun a ha=>?_;refine aA (R.own (dj.mpr ⟨q,mem_of_getElem? e1,ha⟩)) ?_;intro o e;rw [e,G.keep a o e]
  ·have hi':ρ.ah.length≤i:=le_of_not_lt hi;rw [getElem?_append_right hi'] at e1;rw [getElem?_append_right (R.len▸hi')] at e2;have h0:i - ρ.ah.length=0:=by
    have:=(List.getElem?_eq_some_iff.mp e1).1;simp at this;exact this
   rw [h0] at e1;rw [←R.len,h0] at e2;simp at e1 e2;subst e1 e2;exact ho
 apart:=by
  rw [List.pairwise_append];refine⟨R.apart,by simp,fun q hq r hr=>?_⟩
  simp only [mem_singleton] at hr;subst hr;have q1:=R.lt q.1 (aI.mpr (.inl (dj.mpr ⟨q,hq,.inl rfl⟩)));have q2:=R.lt q.2 (aI.mpr (.inl (dj.mpr ⟨q,hq,.inr rfl⟩)));exact⟨ne_of_lt (lt_of_lt_of_le q1 h1.1),ne_of_lt (lt_of_lt_of_le q1 h2.1),ne_of_lt (lt_of_lt_of_le q2 h1.1),ne_of_lt (lt_of_lt_of_le q2 h2.1)⟩
 cR:=fun a ha hp=>by
  rw [pW] at ha;rcases mem_append.mp ha with z|z
  ·exact R.cR a z hp
  ·refine aj (dj.mp z) ?_;intro q hq je;simp only [mem_singleton] at hq;subst hq;have:=R.lt a (aI.mpr (.inr hp));rcases je with rfl|rfl
   ·exact absurd this (not_lt.mpr h1.1)
   ·exact absurd this (not_lt.mpr h2.1)
 lt:=fun a ha=>by
  rcases aI.mp ha with z|z
  ·rw [pW] at z;rcases mem_append.mp z with z|z
   ·exact lt_of_lt_of_le (R.lt a (aI.mpr (.inl z))) G.size
   ·refine aj (dj.mp z) ?_;intro q hq je;simp only [mem_singleton] at hq;subst hq;rcases je with rfl|rfl
    ·exact h1.2
    ·exact h2.2
  ·exact lt_of_lt_of_le (R.lt a (aI.mpr (.inr z))) G.size
 ge:=fun a ha=>by
  rcases aI.mp ha with z|z
  ·rw [pW] at z;rcases mem_append.mp z with z|z
   ·exact R.ge a (aI.mpr (.inl z))
   ·refine aj (dj.mp z) ?_;intro q hq je;simp only [mem_singleton] at hq;subst hq;rcases je with rfl|rfl
    ·exact le_trans hB h1.1
    ·exact le_trans hB h2.1
  ·exact R.ge a (aI.mpr (.inr z))
theorem aM.Aw(G:aM h h')(h1:h.objs.size≤p.1)(h2:h.objs.size≤p.2):Step X ρ ⟨ρ.ah++[p],ρ.priv⟩ h h' where
 keep:=fun a o e Z Z=>G.keep a o e
 pre:=List.prefix_append _ _
 cI:=fun a ha hn=>by
  rw [pW] at ha;rcases mem_append.mp ha with z|z
  ·exact absurd z hn
  ·refine aj (dj.mp z) ?_;intro q hq je;simp only [mem_singleton] at hq;subst hq;rcases je with rfl|rfl
   ·exact h1
   ·exact h2
 fresh:=(vh (cl:=true) G h1 h2).fresh
 size:=G.size
theorem Fo(h:Heap)(o:Obj):h.objs.size<(h.push o).objs.size:=by rw [size_push];exact lt_succ_self _
theorem aD.made{o:Obj}{tk:Nat}(Am:aq X s)(R:Rel X ρ σ s.heap)
 (ho:dX X ⟨ρ.ah++[(s.heap.objs.size,s.heap.objs.size)],ρ.priv⟩ (s.heap.push o) (s.heap.objs.size,s.heap.objs.size) m) :
 aD X ρ s (σ++[m]) (.loc σ.length) (.ref s.heap.objs.size) { s with heap:=s.heap.push o,toks:=tk }:=by
 have G:=aM.push s.heap o;refine⟨ρ.ah++[(s.heap.objs.size,s.heap.objs.size)],G.Aw (le_refl _) (le_refl _),Am.grown G,R.more G Am.size ⟨le_refl _,Fo _ _⟩ ⟨le_refl _,Fo _ _⟩ ho,?_⟩;exact .loc (p:=(s.heap.objs.size,s.heap.objs.size)) (by rw [←R.len];simp)
theorem JJ(h:∀a b c,r≠.Set a b c):behindInMarks op r=false:=by
 cases r with
 | Set=>exact absurd rfl (h _ _ _)
 | _=>rfl
theorem LM{a b c}:ak C n me (.Set a b c) σ=none:=by
 cases n<;>rfl
theorem behind{e:Expr}{z:V×aa}(h:ak C n me e σ=some z):behindInMarks op e=false:=JJ (by rintro _ _ _ rfl;rw [LM] at h;exact nn h)
theorem zX(IH:dg X C k n){x:Option Expr}{o:Option V}(h:tZ (ak C n) me x σ=some (o,σ')){i:Option Int}(hi:vq o=some i)
 (Rm:aT k A) (Am:aq X s) (R:Rel X ρ σ s.heap) (H:b5 X ρ env me s.heap) :
 wpAny (model P X.w) A (evalPart x env) (fun v s'=>IsPart v i∧∃ah,Step X ρ ⟨ah,ρ.priv⟩ s.heap s'.heap∧aq X s'∧Rel X ⟨ah,ρ.priv⟩ σ' s'.heap) E s:=by
 cases x with
 | none=>refine au (fT h) ?_;rintro rfl rfl;obtain rfl:=Option.some.inj hi;exact wpAny_pure ⟨.none,ρ.ah,Step.refl _ _,Am,R⟩
 | some e=>
  refine jS h ?_;intro v σ₁ e1 e2;refine au (Prod.mk.inj e2) ?_;rintro rfl rfl;refine wm (IH e1 Rm Am R H) (fun w s₁ hw=>?_);obtain⟨ah,S,aQ,R₁,rv⟩:=hw;refine⟨?_,ah,S,aQ,R₁⟩;cases v with
  | int j=>refine aA rv.inv ?_;rintro t rfl;obtain rfl:=Option.some.inj hi;exact .int _ _
  | _=>exact nn hi
theorem Cq(IH:dg X C k n){l:Expr}{b:Bool}(h:qU (ak C n) me l op r σ=some (b,σ'))
 (Rm:aT k A) (Am:aq X s) (R:Rel X ρ σ s.heap) (H:b5 X ρ env me s.heap) {Q:Value→Shared→Prop} (hQ:∀ah s',Step X ρ ⟨ah,ρ.priv⟩ s.heap s'.heap→aq X s'→Rel X ⟨ah,ρ.priv⟩ σ' s'.heap→Q (.bool b) s') :
 behindInMarks op r=false∧wpAny (model P X.w) A (eval l env) (fun v s₁=>wpAny (model P X.w) A (eval r env) (fun w s₂=>wpAny (model P X.w) A (compareOp op v w) Q E s₂) E s₁) E s:=by
 refine cps fun Z kk=>?_;refine aY h ?_;clear h;intro a σ₁ e1 h;refine aY h ?_;clear h;intro c σ₂ e2 h;refine bW h ?_;clear h;intro v e3 h;refine kk ?_;clear kk;refine au (Prod.mk.inj h) ?_;rintro rfl rfl;refine⟨behind e2,wm (IH e1 Rm Am R H) (fun w s₁ hw=>?_)⟩;obtain⟨ah,S,aQ,R₁,rv⟩:=hw;refine wm (IH e2 Rm aQ R₁ (H.step Am R S rfl)) (fun w' s₂ hw=>?_);obtain⟨aO,S',cX,R₂,rw⟩:=hw;refine wm (Lb Rm R₂ (rv.step aQ S') rw e3) (fun c s' hx=>?_);refine au hx ?_;clear hx;rintro rfl rfl;exact hQ aO s' (S.trans S') cX R₂
theorem Lf(Fi:bI X)(CO:bL X C k)(IH:dg X C k n)(IT:gO X C k n){elt:Expr}{gs:List Comprehension}{scope:Scope}(h:xN (ak C n) (aX C n) C me elt scope σ gs=some (u,σ'))
 (Rm:aT k A) (Am:aq X s) (R:Rel X ρ σ s.heap) (H:b5 X ρ env me s.heap):wpAny (model P X.w) A (eval (.ListComp elt gs scope pos) env) (aD X ρ s σ' u) E s:=by
 cases gs with
 | nil=>exact nn h
 | cons g gs=>
  obtain⟨t,it,ifs,a⟩:=g;refine bZ h ?_;intro hc h';clear h;simp only [and_eq_true,decide_eq_true_eq,all_eq_true] at hc;refine au hc ?_;clear hc;intro hh;refine au hh ?_;clear hh;intro hh;refine au hh ?_;clear hh;rintro rfl ha;intro he;intro hco;refine cps fun Z kk=>?_;refine aY h' ?_;intro items σ₁ e1 h;refine fL h ?_;clear h;intro out fY σ₂ e2 h;refine bJ h ?_;clear h;intro hl h;refine kk ?_;clear kk;refine cB h ?_;rw [eval_ListComp];refine Cy Fi IH IT CO hco ha (fun hh=>by simpa [hh] using he) e1 e2 hl Rm Am R H fun acc B s' ah ce f=>?_
  refine aA ce.ns ?_;intro m hm;exact⟨m,hm,fun h' sb=>ce.same Fi Am sb⟩
theorem KI(CO:bL X C k)(IH:dg X C k n){f:Expr}{as:List Expr}{kws:List Keyword}(h:Ce (ak C n) C me f as kws pos σ=some (u,σ'))
 (Rm:aT k A) (Am:aq X s) (R:Rel X ρ σ s.heap) (H:b5 X ρ env me s.heap):wpAny (model P X.w) A (eval (.Call f as kws pos) env) (aD X ρ s σ' u) E s:=by
 cases kws with
 | nil=>
  cases hf:oN f with
  | some z=>obtain⟨o,nm,p⟩:=z;obtain rfl:=I6 hf;refine bZ (show qh (ak C n) C me o nm p as pos σ=some (u,σ') from h) ?_;intro hc h;simp only [and_eq_true,decide_eq_true_eq] at hc;refine cps fun Z kk=>?_;refine aY h ?_;clear h;intro ov σ₁ e1 h;refine aH h ?_;clear h;intro fv e2 h;refine aY h ?_;clear h;intro vs σ₂ e3 h;refine kk ?_;clear kk;exact RN IH CO hc.1.1 hc.1.2 hc.2 e1 e2 e3 h Rm Am R H
  | none=>
   have h:(match oN f with|some (o,name,ap)=>qh (ak C n) C me o name ap as pos σ|none=>(ak C n me f σ).bind fun (fv,σ)=>(b7 (ak C n) me as σ).bind fun (vs,σ)=>C.call fv vs none σ)=some (u,σ'):=h
   rw [hf] at h;refine aY h ?_;clear h;intro fv σ₁ e1 h;refine aY h ?_;clear h;intro vs σ₂ e2 h;exact KN IH CO (by rintro o nm p rfl;exact nn hf.symm) e1 e2 h Rm Am R H
 | cons kw kws=>refine aY h ?_;clear h;intro nm ke e0 h;refine bZ h ?_;intro hh;refine bO hh ?_;clear hh;intro hn hc2 hf;intro h';clear h;subst hn;refine aA (EZ e0) ?_;intro p hk;refine cps fun Z kk=>?_;refine aY h' ?_;intro fv σ₁ e1 h;refine aY h ?_;clear h;intro vs σ₂ e2 h;refine aY h ?_;clear h;intro kv σ₃ e3 h;refine kk ?_;clear kk;rw [hk];exact KJ IH CO (by rintro o nm p rfl;exact ff hf) (by rintro rfl;cases hc2) e1 e2 e3 h Rm Am R H
theorem sub_eval(IH:dg X C k n){o i:Expr}(h:sQ (ak C n) me o i σ=some (u,σ'))
 (Rm:aT k A) (Am:aq X s) (R:Rel X ρ σ s.heap) (H:b5 X ρ env me s.heap):wpAny (model P X.w) A (eval (.Subscript o i pos) env) (aD X ρ s σ' u) E s:=by
 unfold sQ at h;cases hs:slice? i with
 | some z=>
  obtain⟨lo,hi,st⟩:=z;rw [hs] at h;refine aA (U8 hs) ?_;rintro p rfl;refine cps fun Z kk=>?_;refine aY h ?_;clear h;intro ov σ₁ e1 h;refine aY h ?_;clear h;intro a σ₂ e2 h;refine aY h ?_;clear h;intro b σ₃ e3 h;refine aY h ?_;clear h;intro c σ₄ e4 h;refine aH h ?_;clear h;intro ai h1 h;refine aH h ?_;clear h;intro bi h2 h;refine aH h ?_;clear h;intro ci h3 h;refine bW h ?_;clear h;intro y h4 h;refine kk ?_;clear kk;refine cB h ?_;refine Subscript_ (wm (IH e1 Rm Am R H) (fun w s₁ hw=>?_));obtain⟨ah,S,aQ,R₁,rv⟩:=hw;have H:=H.step Am R S rfl;refine wpAny_Slice (wm (zX IH e2 h1 Rm aQ R₁ H) (fun vl s₂ hw=>?_));obtain⟨pl,nL,S₂,cX,R₂⟩:=hw;have H:=H.step aQ R₁ S₂ rfl;refine wm (zX IH e3 h2 Rm cX R₂ H) (fun vu s₃ hw=>?_);obtain⟨pu,QE,S₃,A8,R₃⟩:=hw;have H:=H.step cX R₂ S₃ rfl;refine wm (zX IH e4 h3 Rm A8 R₃ H) (fun vk s₄ hw=>?_);obtain⟨pk,pS,S₄,qG,R₄⟩:=hw;have G:=aM.push s₄.heap { cls:=.type "slice",data:=.fields #[vl,vu,vk] };have UQ:=(((rv.step aQ S₂).step cX S₃).step A8 S₄).step qG (G.step _);exact wm (U9 (s:={ s₄ with heap:=s₄.heap.push { cls:=.type "slice",data:=.fields #[vl,vu,vk] } }) (qG.grown G) (R₄.grown G) UQ (IsSliceOf.new _ _ _ _) pl pu pk h4)
   (fun Z Z x=>x.after (s₁:={ s₄ with heap:=s₄.heap.push { cls:=.type "slice",data:=.fields #[vl,vu,vk] } }) ((((S.trans S₂).trans S₃).trans S₄).trans (G.step _)))
 | none=>rw [hs] at h;refine cps fun Z kk=>?_;refine aY h ?_;clear h;intro ov σ₁ e1 h;refine aY h ?_;clear h;intro iv σ₂ e2 h;refine aH h ?_;clear h;intro j h1 h;refine bW h ?_;clear h;intro v e3 h;refine kk ?_;clear kk;refine cB h ?_;obtain rfl:=eu h1;refine Subscript_ (wm (IH e1 Rm Am R H) (fun w s₁ hw=>?_));obtain⟨ah,S,aQ,R₁,rv⟩:=hw;refine wm (IH e2 Rm aQ R₁ (H.step Am R S rfl)) (fun w' s₂ hw=>?_);obtain⟨aO,S',cX,R₂,rw⟩:=hw;refine aA rw.inv ?_;rintro t rfl;exact wm (Pg cX R₂ (rv.step aQ S') e3) (fun Z Z x=>(x.after S').after S)
theorem V4{op:UnaryOp}{v:Value}{a:V}(Am:aq X s)(R:Rel X ρ σ s.heap)(rv:VR X ρ s.heap v a)(h:HH σ op a=some u) :
 wpAny (model P X.w) A (unaryOp op v) (aD X ρ s σ u) E s:=by
 cases op with
 | Not=>refine bW h ?_;rintro b e2 rfl;refine not_value (wm (AK Am R rv e2) (fun c s₂ hc=>?_));obtain⟨aO,S',cX,R₂,rfl⟩:=hc;exact⟨aO,S',cX,R₂,.bool _⟩
 | USub=>refine bW h ?_;rintro i e2 rfl;obtain rfl:=eu e2;refine aA rv.inv ?_;rintro t rfl;exact PyProof.Rows.neg_int (aD.here Am R (aM.refl _) (.int _ _))
 | _=>exact nn h
theorem LO(Fi:bI X)(CO:bL X C k)(IH:dg X C k n)(IT:gO X C k n):dg X C k (n+1):=by
 intro me e σ u σ' h env A E ρ s Rm Am R H;cases e with
 | Constant c kd pos=>
  refine bW h ?_;clear h;intro v e1 h;refine cB h ?_;show wpAny _ A (constValue env c) _ E s;cases c with
  | none=>obtain rfl:=Option.some.inj e1;exact wpAny_pure (aD.here Am R (aM.refl _) .none)
  | bool=>obtain rfl:=Option.some.inj e1;exact wpAny_pure (aD.here Am R (aM.refl _) (.bool _))
  | int=>obtain rfl:=Option.some.inj e1;exact wpAny_mkInt (aD.here Am R (aM.refl _) (.int _ _))
  | str=>obtain rfl:=Option.some.inj e1;exact wpAny_mkText (aD.here Am R (aM.refl _) (.str _ _))
  | _=>exact nn e1
 | Name x pos=>refine bW h ?_;clear h;intro v e1 h;refine cB h ?_;exact (gW CO e1 Am H fun w rw=>aD.here Am R (aM.refl _) rw).2
 | BinOp l op r pos=>refine cps fun Z kk=>?_;refine aY h ?_;clear h;intro a σ₁ e1 h;refine aY h ?_;clear h;intro b σ₂ e2 h;refine bW h ?_;clear h;intro v e3 h;refine kk ?_;clear kk;refine cB h ?_;refine wpAny_BinOp (wm (IH e1 Rm Am R H) (fun w s₁ hw=>?_));obtain⟨ah,S,aQ,R₁,rv⟩:=hw;refine wm (IH e2 Rm aQ R₁ (H.step Am R S rfl)) (fun w' s₂ hw=>?_);obtain⟨aO,S',cX,R₂,rw⟩:=hw;exact wm (J4 cX R₂ (rv.step aQ S') rw e3) (fun Z Z x=>(x.after S').after S)
 | UnaryOp op x pos=>refine aY h ?_;clear h;intro a σ₁ e1 h;refine bW h ?_;clear h;intro v e2 h;refine cB h ?_;refine wpAny_UnaryOp (wm (IH e1 Rm Am R H) (fun w s₁ hw=>?_));obtain⟨ah,S,aQ,R₁,rv⟩:=hw;exact wm (V4 aQ R₁ rv e2) (fun Z Z x=>x.after S)
 | BoolOp op vs pos=>exact Kn IH h Rm Am R H
 | IfExp t a b pos=>
  refine aY h ?_;clear h;intro c σ₁ e1 h;refine wpAny_IfExp (wm (IT e1 Rm Am R H) (fun c' s₁ hc=>?_));obtain⟨ah,S,aQ,R₁,rfl⟩:=hc;cases c' with
  | true=>exact wm (IH h Rm aQ R₁ (H.step Am R S rfl)) (fun Z Z x=>x.after S)
  | false=>exact wm (IH h Rm aQ R₁ (H.step Am R S rfl)) (fun Z Z x=>x.after S)
 | List es pos=>
  cases es with
  | nil=>refine cB (Option.some.inj h) ?_;exact wpAny_List (spliced_nil ⟨zero_le _,aD.made Am R (.list ⟨0,get?_push_size _ rfl⟩ .nil rfl)⟩)
  | cons e0 es=>
  refine aY h ?_;clear h;intro vs σ₁ e1 h;refine bJ h ?_;clear h;intro hl h;refine cB h ?_;refine wpAny_List (wm (qX IH e1 Rm Am R H) (fun ws s₁ hw=>?_));obtain⟨ah,S,aQ,R₁,rs⟩:=hw;exact⟨by rw [rs.length];exact hl,Rk S aQ R₁ rs⟩
 | Tuple es kd pos=>refine aY h ?_;clear h;intro vs σ₁ e1 h;refine bJ h ?_;clear h;intro hl h;refine cB h ?_;refine wpAny_Tuple (wm (qX IH e1 Rm Am R H) (fun ws s₁ hw=>?_));obtain⟨ah,S,aQ,R₁,rs⟩:=hw;exact⟨by rw [rs.length];exact hl,Rl S aQ R₁ rs⟩
 | ListComp elt gens scope pos=>exact Lf Fi CO IH IT h Rm Am R H
 | Compare l ops rs pos=>refine aY h ?_;clear h;intro op r e0 h;refine jS h ?_;clear h;intro b σ₁ e1 h;refine cB h ?_;refine au (Co e0) ?_;rintro rfl rfl;have m:=Cq (E:=E) IH e1 Rm Am R H (Q:=aD X ρ s σ₁ (.bool b)) fun ah s' S Am R=>⟨ah,S,Am,R,.bool _⟩;exact wpAny_Compare1 m.2 m.1
 | Lambda as b sc pos=>refine bW h ?_;clear h;intro v e1 h;refine cB h ?_;exact CO.lam e1 Rm Am R H
 | Call f as kws pos=>exact KI CO IH h Rm Am R H
 | Subscript o i pos=>exact sub_eval IH h Rm Am R H
 | _=>exact nn h
theorem VY(IH:dg X C k n)(IT:gO X C k n):gO X C k (n+1):=by
 intro me e σ b σ' h env A E ρ s Rm Am R H;have Dl:(∀whole,isTrue e env whole=(do let v ←whole;standAt e.pos;holding [v] (truthy v)))→wh (ak C n) me e σ=some (b,σ')→
  wpAny (model P X.w) A (isTrue e env (eval e env)) (fK X ρ s σ' b) E s:=by
  intro he h;refine aY h ?_;clear h;intro v σ₁ e1 h;refine bW h ?_;clear h;intro c e2 h;refine Gh h ?_;refine wpAny_isTrue_value (wm (IH e1 Rm Am R H) (fun w s₁ hw=>?_)) (he _);obtain⟨ah,S,aQ,R₁,rv⟩:=hw;exact wm (AK aQ R₁ rv e2) (fun Z Z x=>x.after S)
 cases e with
 | UnaryOp op x pos=>
  cases op with
  | Not=>refine jS h ?_;clear h;intro c σ₁ e1 h;refine Gh (show (!c,σ₁)=(b,σ') from h) ?_;refine wpAny_isTrue_Not (wm (IT e1 Rm Am R H) (fun c' s₁ hc=>?_));obtain⟨ah,S,aQ,R₁,rfl⟩:=hc;exact⟨ah,S,aQ,R₁,rfl⟩
  | _=>exact Dl (fun Z=>rfl) h
 | BoolOp op vs pos=>exact wpAny_isTrue_BoolOp (Ir IT h Rm Am R H)
 | IfExp=>exact nn h
 | Compare l ops rs pos=>refine aY h ?_;clear h;intro op r e0 h;refine au (Co e0) ?_;rintro rfl rfl;have m:=Cq (E:=E) IH h Rm Am R H (Q:=fun v s'=>wpAny (model P X.w) A (truthy v) (fK X ρ s σ' b) E s') fun ah s' S Am R=>wpAny_truthy_bool ⟨ah,S,Am,R,rfl⟩;exact wpAny_isTrue_Compare1 m.2 m.1
 | _=>exact Dl (fun Z=>rfl) h
theorem B5(Fi:bI X)(CO:bL X C k):∀n,dg X C k n∧gO X C k n:=by
 intro n
 induction n with
 | zero=>exact⟨by intro _ _ _ _ _ h;exact nn h,by intro _ _ _ _ _ h;exact nn h⟩
 | succ n rc=>refine au (rc) ?_;intro a b;exact⟨LO Fi CO a b,VY a b⟩
theorem mY(Fi:bI X)(CO:bL X C k)(n:Nat):dg X C k n:=(B5 Fi CO n).1
theorem HE(Fi:bI X)(CO:bL X C k)(n:Nat):gO X C k n:=(B5 Fi CO n).2
end
section
variable{X:Ctx}{C:Calls}{k n:Nat}
inductive Fl where
 | next
 | brk
 | ret (v:V)
noncomputable def mU(op:Operator)(u x:V):Option V:=u.int?.bind fun a=>x.int?.bind fun b=>if op=.Add∨op=.BitXor∨op=.BitOr∨op=.LShift then (kE op a b).map V.int else none
noncomputable def kU(σ:aa)(o:V)(i:V)(u:V):Option aa:=o.loc?.bind fun m=>i.int?.bind fun j=>(listAt σ m).bind fun l=>
 if 0≤j∧j<2^62∧j.toNat<l.length∧u.plain=true then some (σ.set m (.list (l.set j.toNat u))) else none
noncomputable def m5(ex:ao→List Stmt→aa→Option (Fl×ao×aa))(t:Expr)(body orelse:List Stmt):List V→ao→aa→Option (Fl×ao×aa)
 | [],me,σ=>ex me orelse σ
 | v::vs,me,σ=>(cM me t v).bind fun me=>(ex me body σ).bind fun (fl,me,σ)=>match fl with
  | .next=>m5 ex t body orelse vs me σ
  | .brk=>some (.next,me,σ)
  | .ret v=>some (.ret v,me,σ)
noncomputable def gI(ex:ao→List Stmt→aa→Option (Fl×ao×aa))(tr:ao→Expr→aa→Option (Bool×aa))(test:Expr)(body orelse:List Stmt):Nat→ao→aa→Option (Fl×ao×aa)
 | 0,_,_=>none
 | n+1,me,σ=>(tr me test σ).bind fun (b,σ)=>if b then (ex me body σ).bind fun (fl,me,σ)=>match fl with
  | .next=>gI ex tr test body orelse n me σ
  | .brk=>some (.next,me,σ)
  | .ret v=>some (.ret v,me,σ)
  else ex me orelse σ
noncomputable def vf:Expr→Option Str:=eS none fun x Z=>some x
theorem zK{e:Expr}{x:Str}(h:vf e=some x):∃p,e=.Name x p:=by
 refine bK (jh nS h) ?_;rintro a p rfl h2;cases h2;exact⟨p,rfl⟩
noncomputable def qk(l:List Expr):Option (Str×Str):=(iV l).bind fun (a,b)=>(vf a).bind fun x=>(vf b).bind fun y=>if x≠y then some (x,y) else none
theorem Gg{ts:List Expr}{x y:Str}(h:qk ts=some (x,y)):∃p q,ts=[.Name x p,.Name y q]∧x≠y:=by
 refine cps fun Z kk=>?_;refine aY h ?_;intro a b e0 h;refine aH h ?_;intro x' e1 h;refine aH h ?_;intro y' e2 h;refine bJ h ?_;intro hn h;refine kk ?_;clear kk;refine au (Prod.mk.inj h) ?_;rintro rfl rfl;refine aA (zK e1) ?_;rintro p rfl;refine aA (zK e2) ?_;rintro q rfl;exact⟨p,q,qB e0,hn⟩
section
variable(ev:ao→Expr→aa→Option (V×aa))(C:Calls)
noncomputable def LY(me:ao)(e:Expr)(σ:aa):Option (Fl×ao×aa):=gu none (fun f as kws p=>(ev me (.Call f as kws p) σ).bind fun (v,σ)=>v.zP.map fun Z=>(.next,me,σ)) e
noncomputable def BC(me:ao)(t e:Expr)(σ:aa):Option (Fl×ao×aa):=
 eS (mq (jB none (fun o i Z=>(ev me e σ).bind fun (v,σ)=>(ev me o σ).bind fun (ov,σ)=>(ev me i σ).bind fun (iv,σ)=>(kU σ ov iv v).map fun σ=>(.next,me,σ)) t)
  (fun ts tk tp=>(sS e).bind fun vs=>(qk ts).bind fun Z=>if vs.all (constantsAlone 8)=false then
   (ev me e σ).bind fun (v,σ)=>if v.plain then (cM me (.Tuple ts tk tp) v).map fun me=>(.next,me,σ) else none else none) t)
  (fun x xp=>(ev me e σ).bind fun (v,σ)=>(iA me (.Name x xp) v).map fun me=>(.next,me,σ)) t
noncomputable def BD(me:ao)(t:Expr)(op:Operator)(e:Expr)(σ:aa):Option (Fl×ao×aa):=eS (jB none (fun o i Z=>(vf i).bind fun ix=>(ev me o σ).bind fun (ov,σ)=>(cy C me ix).bind fun iv=>iv.int?.bind fun j=>
 (listOf σ ov).bind fun l=>if 0≤j∧j<2^62 then (l[j.toNat]?).bind fun old=>(ev me e σ).bind fun (v,σ)=>(mU op old v).bind fun r=>
  (kU σ ov iv r).map fun σ=>(.next,me,σ) else none) t)
 (fun x xp=>(cy C me x).bind fun old=>(ev me e σ).bind fun (v,σ)=>(mU op old v).bind fun r=>(iA me (.Name x xp) r).map fun me=>(.next,me,σ)) t
end
mutual
noncomputable def aZ(C:Calls):Nat→ao→Stmt→aa→Option (Fl×ao×aa)
 | 0,_,_,_=>none
 | n+1,me,st,σ=>match st with
  | .Expr e _=>LY (ak C n) me e σ
  | .Return e _=>match e with
   | some e=>(ak C n me e σ).map fun (v,σ)=>(.ret v,me,σ)
   | none=>some (.ret .none,me,σ)
  | .Break _=>some (.brk,me,σ)
  | .Assign ts e _=>(one? ts).bind fun t=>BC (ak C n) me t e σ
  | .AugAssign t op e _=>BD (ak C n) C me t op e σ
  | .If t body orelse _=>(aX C n me t σ).bind fun (b,σ)=>if b then aU C n me body σ else aU C n me orelse σ
  | .For t it body orelse _=>if !fP C me it||ez t then (dD (ak C n) C me it σ).bind fun (items,σ)=>m5 (aU C n) t body orelse items me σ else none
  | .While test body orelse _=>gI (aU C n) (aX C n) test body orelse n me σ
  | _=>none
noncomputable def aU(C:Calls):Nat→ao→List Stmt→aa→Option (Fl×ao×aa)
 | 0,_,_,_=>none
 | n+1,me,sts,σ=>match sts with
  | []=>some (.next,me,σ)
  | st::rest=>(aZ C n me st σ).bind fun (fl,me,σ)=>match fl with
   | .next=>aU C n me rest σ
   | fl=>some (fl,me,σ)
end
inductive iw(X:Ctx)(ρ:aB)(h:Heap):Flow→Fl→Prop
 | next:iw X ρ h .next .next
 | brk:iw X ρ h .brk .brk
 | ret {v:Value} {u:V}:VR X ρ h v u→iw X ρ h (.ret v) (.ret u)
noncomputable def iw.shape(X:Ctx)(ρ:aB)(h:Heap)(f:Flow):Fl→Prop
 | .next=>f=.next
 | .brk=>f=.brk
 | .ret u=>∃v,f=.ret v∧VR X ρ h v u
theorem iw.inv{ρ:aB}{h:Heap}{f:Flow}{fl:Fl}(r:iw X ρ h f fl):iw.shape X ρ h f fl:=by
 cases r with
 | next=>exact rfl
 | brk=>exact rfl
 | ret a=>exact⟨_,rfl,a⟩
inductive cO(X:Ctx)(h₀:Heap)(ρ₀:aB)(env:Env)(me:ao)(ρ:aB)(s:Shared)(y:Addr→Prop)(fl:Fl)(az:ao)(σ':aa)(f:Flow)(s':Shared):Prop
 | mk (aO:List (Addr×Addr)):iw X ⟨aO,ρ.priv⟩ s'.heap f fl→bB X h₀ ρ₀ env az ⟨aO,ρ.priv⟩ σ' s'→FK X y ρ.ah aO s.heap s'.heap→az.names=me.names→cO X h₀ ρ₀ env me ρ s y fl az σ' f s'
noncomputable def wF(X:Ctx)(C:Calls)(k n:Nat):Prop:=∀{me:ao} {st:Stmt} {σ:aa} {fl:Fl} {az:ao} {σ':aa},aZ C n me st σ=some (fl,az,σ')→∀{env:Env} {A:Around} {E:Value→Shared→Prop} {h₀:Heap} {ρ₀ ρ:aB} {s:Shared},
 aT k A→bB X h₀ ρ₀ env me ρ σ s→wpAny (model P X.w) A (exec st env) (cO X h₀ ρ₀ env me ρ s (Own env me) fl az σ') E s
noncomputable def mz(X:Ctx)(C:Calls)(k n:Nat):Prop:=∀{me:ao} {st:List Stmt} {σ:aa} {fl:Fl} {az:ao} {σ':aa},aU C n me st σ=some (fl,az,σ')→∀{env:Env} {A:Around} {E:Value→Shared→Prop} {h₀:Heap} {ρ₀ ρ:aB} {s:Shared},
 aT k A→bB X h₀ ρ₀ env me ρ σ s→wpAny (model P X.w) A (execs st env) (cO X h₀ ρ₀ env me ρ s (Own env me) fl az σ') E s
theorem cO.after{h₀:Heap}{ρ₀ ρ:aB}{env:Env}{me bu az:ao}{s s₁ s':Shared}{y:Addr→Prop}{fl:Fl}{σ':aa}{f:Flow}{ah:List (Addr×Addr)}(F:FK X y ρ.ah ah s.heap s₁.heap)(hn:bu.names=me.names)
 (h:cO X h₀ ρ₀ env bu ⟨ah,ρ.priv⟩ s₁ y fl az σ' f s'):cO X h₀ ρ₀ env me ρ s y fl az σ' f s':=by
 obtain⟨l,a,b,c,d⟩:=h;exact⟨l,a,b,F.trans c,d.trans hn⟩
theorem U3{A:Around}{E:Value→Shared→Prop}{s:Shared}{l:Addr}{items:Array Value}{i:Int}{t:Tok}{v:Value}{Q:Unit→Shared→Prop}(hl:PL s.heap l items)(h0:0≤i)(hj:i<items.size)(hf:i<2^63)
 (hQ:∀h',PL h' l (items.setIfInBounds i.toNat v)→SameBut l s.heap h'→Q () { s with heap:=h' }):wpAny (model P X.w) A (setItem (.ref l) (.int i t) v) Q E s:=by
 refine aA hl ?_;clear hl;intro nn ho;have ty:s.TypeIs (.ref l) "list":=⟨_,ho,rfl⟩;unfold setItem;refine wpAny_holding (wpAny_bind (wpAny_sequenceKey ty (by decide) ?_))
 refine wpAny_bind (wpAny_callSpecial?_slot (name:=ofString "__setitem__") ty slot_list_setitem (wpAny_call_entry slot_list_setitem ty entry_list_setitem ?_ (args_list_setitem _ _ _)));show wpAny _ _ (Builtin.List.listSubscript? (.int i t)>>=_) _ _ s;refine wpAny_bind (wpAny_listSubscript_int (fitsIndex_of h0 hf) ?_);clear hf;refine aA (Int.eq_ofNat_of_zero_le h0) ?_;rintro j rfl;have hj':j<items.size:=by lia
 have hx:items[j]?=some items[j]:=Array.getElem?_eq_getElem hj';show wpAny _ _ ((seqItemAt l j>>=fun r=>pure (r.map (j,·)))>>=_) _ _ s
 refine wpAny_bind (wpAny_bind (wpAny_seqItemAt ho rfl (wpAny_pure ?_)));rw [hx];show wpAny _ _ (setSeqItemAt l j v>>=_) _ _ s;obtain⟨n',hm⟩:∃n',mapSeq (·.setIfInBounds j v) { cls:=.type "list",dict:=none,data:=.seq items nn,slots:=#[] }={ cls:=.type "list",dict:=none,data:=.seq (items.setIfInBounds j v) n',slots:=#[] }:=⟨_,rfl⟩
 refine wpAny_bind (wpAny_setSeqItemAt ho rfl ?_);have fin:=hQ (s.heap.update l (mapSeq (·.setIfInBounds j v))) ⟨n',by rw [get?_update_self _ ho (by rw [hm];rfl),hm];rfl⟩ (SameBut.update ..)
 exact wpAny_pure ⟨.none,rfl,wpAny_pure fin⟩
end
section
variable{ρ:aB}{h h':Heap}{p:Addr×Addr}{m:bY}{i:Nat}{σ:aa}{s s':Shared}{A:Around}{E:Value→Shared→Prop}{v:Value}{u:V}
variable{X:Ctx}{C:Calls}{k n:Nat}
theorem dX.kinds(r:dX X ρ h p m){a:Addr}(ha:a=p.1∨a=p.2){o:Obj}(e:h.get? a=some o):o.cls≠.none∧¬kF o:=by
 cases r with
 | list x _ _=>refine aA x ?_;clear x;intro n e';rcases ha with rfl|rfl<;>(obtain rfl:=Option.some.inj (e.symm.trans e');exact⟨by simp,by intro hh;refine bG hh ?_;clear hh;intro vs q t h _;cases h⟩)
 | iter x _ _ _ _=>refine bQ x ?_;clear x;intro o' e' c d;rcases ha with rfl|rfl<;>(obtain rfl:=Option.some.inj (e.symm.trans e');exact⟨by rw [c];simp,by intro hh;refine bG hh ?_;clear hh;intro vs q t h z;rw [d] at h;cases h;simp at z⟩)
 | acc x _ _=>
  obtain⟨n,t,hh,kt,e1,e2⟩:=x;rcases ha with rfl|rfl
  ·obtain rfl:=Option.some.inj (e.symm.trans e1);exact⟨by simp,by intro hh;refine bG hh ?_;clear hh;intro vs q t h _;cases h⟩
  ·obtain rfl:=Option.some.inj (e.symm.trans e2);exact⟨by simp,by intro hh;refine bG hh ?_;clear hh;intro vs q t h _;cases h⟩
structure Upd(ρ:aB)(p:Addr×Addr)(i:Nat)(h h':Heap):Prop where
 fX:ρ.ah[i]?=some p
 keep:∀b o,h.get? b=some o→b≠p.1→b≠p.2→h'.get? b=some o
 size:h.objs.size≤h'.objs.size
theorem Upd.zG(U:Upd ρ p i h h'):p.1∈lp ρ.ah:=dj.mpr ⟨p,mem_of_getElem? U.fX,.inl rfl⟩
theorem Upd.zH(U:Upd ρ p i h h'):p.2∈lp ρ.ah:=dj.mpr ⟨p,mem_of_getElem? U.fX,.inr rfl⟩
theorem Upd.step(U:Upd ρ p i h h'):Step X ρ ρ h h' where
 keep:=fun b o e Z hb=>U.keep b o e (fun z=>hb (z▸U.zG)) fun z=>hb (z▸U.zH)
 pre:=prefix_refl _
 cI:=fun Z q n=>absurd q n
 fresh:=fun Z q n=>absurd q n
 size:=U.size
theorem Upd.aG(A:aq X s)(Fi:bI X)(R:Rel X ρ σ s.heap)(U:Upd ρ p i s.heap s'.heap)(ho:s'.os=s.os:=by rfl)(hg:s'.gens=s.gens:=by rfl):aq X s' where
 keep:=fun a o e t=>by
  refine U.keep a o (A.keep a o e t) ?_ ?_
  ·rintro rfl;exact absurd (R.ge _ (aI.mpr (.inl U.zG))) (not_le.mpr (lt_of_lt_of_le (lt_size e) Fi.size))
  ·rintro rfl;exact absurd (R.ge _ (aI.mpr (.inl U.zH))) (not_le.mpr (lt_of_lt_of_le (lt_size e) Fi.size))
 tab:=fun T q m=>by
  refine bQ ((A.tab T q m).ok) ?_;intro ps a b c;refine aj (R.get U.fX) ?_;intro mo _ om;have k1:∀a o,s.heap.get? a=some o→(o.cls=.none∨kF o)→s'.heap.get? a=some o:=fun a o e hc=>by
   refine U.keep a o e ?_ ?_
   ·intro z;have:=om.kinds (.inl z) e;rcases hc with h|h;exact this.1 h;exact this.2 h
   ·intro z;have:=om.kinds (.inr z) e;rcases hc with h|h;exact this.1 h;exact this.2 h
  refine⟨ps,k1 _ _ a (.inl rfl),b,fun pos cv e=>?_⟩;refine iH (c pos cv e) ?_;intro cc co ws t e1 e2 e4 e5 e6;exact⟨cc,co,ws,t,e1,k1 _ _ e2 (.inr ⟨_,_,_,e4,e5⟩),e4,e5,e6⟩
 os:=ho.trans A.os
 gens:=hg▸A.gens
 size:=le_trans A.size U.size
 lim:=by
  refine aj A.lim ?_;intro mc hh;refine bG hh ?_;clear hh;intro o es ep e r;intro h;exact⟨mc,⟨o,es,ep,U.keep _ _ e (fun z=>jt (R.ge _ (aI.mpr (.inl U.zG))) z.symm) (fun z=>jt (R.ge _ (aI.mpr (.inl U.zH))) z.symm),r⟩,h⟩
theorem Upd.rel(A:aq X s)(R:Rel X ρ σ s.heap)(U:Upd ρ p i s.heap s'.heap)(ho:dX X ρ s'.heap p m):Rel X ρ (σ.set i m) s'.heap where
 len:=by rw [length_set];exact R.len
 obj:=fun j q m' e1 e2=>by
  by_cases hj:j=i
  ·subst hj;rw [U.fX] at e1;cases e1;have hl:j<σ.length:=by rw [←R.len];exact (List.getElem?_eq_some_iff.mp U.fX).1
   rw [List.getElem?_set_self hl] at e2;cases e2;exact ho
  ·rw [List.getElem?_set_ne (Ne.symm hj)] at e2;refine (R.obj j q m' e1 e2).mono (U.step.mono (X:=X) (cl:=false) A) fun a ha=>?_;refine aA (R.own (dj.mpr ⟨q,mem_of_getElem? e1,ha⟩)) ?_;intro o e;rw [e];have hap:apart q p:=by
    have hp:=List.pairwise_iff_getElem.mp R.apart;refine aA (List.getElem?_eq_some_iff.mp e1) ?_;intro hj1 hj2;refine aA (List.getElem?_eq_some_iff.mp U.fX) ?_;intro hi1 hi2;rcases Nat.lt_or_gt_of_ne hj with h|h
    ·have:=hp j i hj1 hi1 h;rw [hj2,hi2] at this;exact this
    ·have:=hp i j hi1 hj1 h;rw [hj2,hi2] at this;exact⟨Ne.symm this.1,Ne.symm this.2.2.1,Ne.symm this.2.1,Ne.symm this.2.2.2⟩
   refine U.keep a o e ?_ ?_
   ·rcases ha with rfl|rfl;exact hap.1;exact hap.2.2.1
   ·rcases ha with rfl|rfl;exact hap.2.1;exact hap.2.2.2
 apart:=R.apart
 cR:=R.cR
 lt:=fun a ha=>lt_of_lt_of_le (R.lt a ha) U.size
 ge:=R.ge
theorem Upd.list{a:Nat}(hl:ρ.ah[i]?=some (a,a))(sb:SameBut a h h'):Upd ρ (a,a) i h h':=⟨hl,fun b o e h1 Z=>(sb.2 b h1).trans e,le_of_eq sb.1.symm⟩
theorem BF{op:Operator}{w:Value}{x y:V}(Am:aq X s)(R:Rel X ρ σ s.heap)(r:VR X ρ s.heap v u)(q:VR X ρ s.heap w x)(e:mU op u x=some y) :
 wpAny (model P X.w) A (inplaceOp op v w) (aD X ρ s σ y) E s:=by
 have tk:∀(i:Int) (t:Tok) (t':Nat),aD X ρ s σ (.int i) (.int i t) { s with toks:=t' }:=fun i t t'=>aD.here Am R (aM.refl _) (.int i t)
 refine cps fun Z kk=>?_;refine aH e ?_;clear e;intro a e1 e;refine aH e ?_;clear e;intro b e2 e;refine bZ e ?_;clear e;intro ho e;refine bW e ?_;rintro i e' rfl;refine kk ?_;clear kk;clear e;obtain rfl:=eu e1;obtain rfl:=eu e2;refine aA r.inv ?_;rintro t rfl;refine aA q.inv ?_;rintro t' rfl;rcases ho with rfl|rfl|rfl|rfl
 ·cases e';exact PyProof.Rows.iadd_int (tk _ _ _)
 ·cases e';exact PyProof.Rows.ixor_int (tk _ _ _)
 ·cases e';exact PyProof.Rows.ior_int (tk _ _ _)
 ·refine au (jO e') ?_;rintro h rfl;exact PyProof.Rows.ilshift_int_small h.1 (by omega) h.2.2 (tk _ _ _)
theorem GW(Fi:bI X){σ':aa}{o i:Value}{uo ui:V}(Am:aq X s)(R:Rel X ρ σ s.heap)(ro:VR X ρ s.heap o uo)(ri:VR X ρ s.heap i ui)(rv:VR X ρ s.heap v u)
 (e:kU σ uo ui u=some σ'):wpAny (model P X.w) A (setItem o i v) (fun Z s'=>Step X ρ ρ s.heap s'.heap∧aq X s'∧Rel X ρ σ' s'.heap) E s:=by
 refine cps fun Z kk=>?_;refine aH e ?_;clear e;intro m e1 e;refine aH e ?_;clear e;intro j e2 e;refine aH e ?_;clear e;intro l hl e;refine bJ e ?_;rintro hc rfl;refine kk ?_;clear kk;obtain rfl:=pU e1;obtain rfl:=eu e2;refine aj ro.inv ?_;rintro p rfl hm;refine aA ri.inv ?_;rintro t rfl;refine bV ((R.obj m p _ hm (rY hl)).inv) ?_;rintro a vs rfl pl rs hpl;have hlen:vs.size=l.length:=rs.length;refine U3 pl hc.1 ((toNat_lt hc.1).mp (hlen.symm▸hc.2.2.1)) (Int.lt_trans hc.2.1 (by decide)) fun h' kQ sb=>?_
 have U:=Upd.list hm sb;have S:Step X ρ ρ s.heap h':=U.step;refine⟨S,U.aG (s':={ s with heap:=h' }) Am Fi R,U.rel (s':={ s with heap:=h' }) Am R (.list kQ ?_ ?_)⟩
 ·rw [Array.toList_setIfInBounds];have base:=rs.step Am S;refine aC.of_get (by rw [length_set,length_set];exact base.length) fun q v' u' e1 e2=>?_
  by_cases hq:j.toNat=q
  ·subst hq;rw [List.getElem?_set_self (by rw [length_toList,hlen];exact hc.2.2.1)] at e1
   rw [List.getElem?_set_self hc.2.2.1] at e2;cases e1;cases e2;exact rv.step Am S
  ·rw [List.getElem?_set_ne hq] at e1 e2;refine aj (base.get e2) ?_;intro v'' e3 e4;rw [e3] at e1;cases e1;exact e4
 ·rw [eX] at hpl ⊢;intro z hz;rcases List.mem_or_eq_of_mem_set hz with h|rfl
  ·exact hpl z h
  ·exact hc.2.2.2
end
section
variable{h₀:Heap}{ρ₀ ρ:aB}{env:Env}{me az:ao}{σ σ':aa}{s:Shared}{ah:List (Addr×Addr)}{e:Expr}{x y:Str}{xp:Pos}{A:Around}{E:Value→Shared→Prop}
variable{X:Ctx}{C:Calls}{k n:Nat}
theorem Step.n5{s₁:Shared}{fl:Fl}{f:Flow}(I:bB X h₀ ρ₀ env me ρ σ s)
 (S:Step X ρ ⟨ah,ρ.priv⟩ s.heap s₁.heap) (Am:aq X s₁) (R:Rel X ⟨ah,ρ.priv⟩ σ' s₁.heap) (hf:iw X ⟨ah,ρ.priv⟩ s₁.heap f fl):cO X h₀ ρ₀ env me ρ s (Own env me) fl me σ' f s₁:=
 ⟨ah,hf,I.after S Am R,S.fk,rfl⟩
theorem Vz{t:Option Expr}{l:Nat}(h:∀a b c d,e≠.ListComp a b c d)(h2:∀a b c d,e≠.SetComp a b c d)(h3:∀a b c d f,e≠.DictComp a b c d f):swapsWith e t l env=pure false:=by
 cases e with
 | ListComp=>exact absurd rfl (h _ _ _ _)
 | SetComp=>exact absurd rfl (h2 _ _ _ _)
 | DictComp=>exact absurd rfl (h3 _ _ _ _ _)
 | _=>rfl
theorem LL{z:V×aa}(h:ak C n me e σ=some z):(∀a b c d,e≠.SetComp a b c d)∧∀a b c d f,e≠.DictComp a b c d f:=by
 cases n with
 | zero=>exact nn h
 | succ n=>exact⟨by rintro a b c d rfl;exact nn h,by rintro a b c d f rfl;exact nn h⟩
theorem I0(Fi:bI X){σ₂:aa}{out:List V}(h2:iA me (.Name x xp) (.lst out)=some az)
 {s':Shared} (I:bB X h₀ ρ₀ env me ρ σ s) {acc B:Addr}  (ce:CompEnd X ρ s σ₂ out acc B s' ah) :
 wpAny (model P X.w) A (assign (.Name x xp) env (.ref acc)) (fun Z s'=>∃m,s'.heap.Ns B m∧∀h',SameBut B s'.heap h'→cO X h₀ ρ₀ env me ρ s (Own env me) .next az σ₂ .next { s' with heap:=h' }) E s':=by
 have I₁:=I.after ce.step ce.aG ce.rel;refine xe Fi I₁ ce.val h2 fun s'' gK F hn=>?_;have hlt:∀b,Own env me b→b<s.heap.objs.size:=by
  rintro b (rfl|⟨y,hy1,ze⟩)
  ·refine aj I.en.loc ?_;intro m hh;refine bG hh ?_;clear hh;intro o es ep eo _;intro _;exact lt_size eo
  ·refine bV (I.en.cell y _ hy1 (.inl rfl)) ?_;intro c ov f1 f2 hh;refine aj hh ?_;clear hh;intro o' f3 _;intro _;rw [ze] at f1;cases f1;exact lt_size f3
 have hB:¬Own env me B:=fun z=>absurd (hlt B z) (not_lt.mpr ce.ge);refine tW ce.ns ?_;intro m o es ep eo d rest;have CT:=F.keep B o eo (ce.aG.lY eo (fun ps q=>by rw [q] at d;cases d) (.inl (jt (le_trans I.aG.size ce.ge)))) (fun z=>ce.vj (aI.mpr (.inl z))) hB
 refine⟨m,⟨o,es,ep,CT,d,rest⟩,fun h' sb=>?_⟩;have Qt:Quiet true ⟨ah,ρ.priv⟩ (·=B) s''.heap h':=
  {keep:=fun a o e hne=>(sb.2 a hne).trans e
   size:=le_of_eq sb.1.symm
   ge:=fun a ha=>ha▸le_trans I.aG.size ce.ge
   fX:=fun a ha q=>ce.vj (aI.mpr (.inl (ha▸q)))
   kind:=fun a o' ha e'=>by
    subst ha;obtain rfl:=Option.some.inj (e'.symm.trans CT);refine .inl ⟨fun hv=>?_,fun ps hp=>?_⟩
    ·rcases hv with⟨xs,n,y⟩|⟨_,⟨fd,y⟩|⟨w,y⟩|⟨ws,_,_,y,_⟩⟩<;>(rw [d] at y;cases y)
    ·rw [hp] at d;cases d }
 have hloc:env.locals<s.heap.objs.size:=hlt _ (.inl rfl);have hnl:¬(env.locals=B):=fun z=>by rw [z] at hloc;exact absurd hloc (not_lt.mpr ce.ge)
 have hcell:∀y c kd,az.names.lookup y=some kd→(kd=.cell∨kd=.free)→env.cells.lookup y=some c→c≠B:=by
  intro y c kd h3 h4 h5 z;rw [hn] at h3;refine bV (I.en.cell y kd h3 h4) ?_;intro c' ov f1 f2 hh;refine aj hh ?_;clear hh;intro o' f3 _;intro _;rw [h5] at f1;cases f1;rw [z] at f3;exact absurd (lt_size f3) (not_lt.mpr ce.ge)
 refine⟨ah,.next,⟨gK.aG.quiet Fi.size (s':={ s'' with heap:=h' }) Qt,gK.rel.quiet Qt,?_,gK.step.quiet Qt (fun a ha=>ha▸le_trans I.step.size ce.ge),gK.base,gK.jm,gK.gw⟩,?_,hn⟩
 ·have H:=gK.en;refine { kind:=H.kind,globals:=H.globals,builtins:=H.builtins,code:=H.code,qual:=H.qual,names:=H.names,loc:=?_,cell:=fun y kd q1 q2=>?_,priv:=H.priv,pl:=H.pl,inj:=H.inj,pv:=fun a ha=>(H.pv a ha).keep fun o e=>Qt.keep a o e fun z=>ce.vj (aI.mpr (.inr (z▸ha))) }
  ·refine aj H.loc ?_;intro m hh;refine dw hh ?_;clear hh;intro o es ep e d r;intro hv;refine⟨m,⟨o,es,ep,Qt.keep _ _ e hnl,d,r⟩,fun y u q1 q2=>?_⟩;refine aj (hv y u q1 q2) ?_;intro v h3 h4;exact⟨v,h3,h4.mono Qt.mono (.inl rfl)⟩
  ·refine bV (H.cell y kd q1 q2) ?_;intro c ov e1 e2 hh;refine aj hh ?_;clear hh;intro o eo d;intro e4;refine⟨c,ov,e1,e2,⟨o,Qt.keep _ _ eo (hcell y c kd q1 q2 e1),d⟩,fun u hu=>?_⟩;refine aj (e4 u hu) ?_;intro v h3 h4;exact⟨v,h3,h4.mono Qt.mono (.inl rfl)⟩
 ·exact (ce.step.fk.trans ((F.weak fun a ha=>.inl ha).trans (Qt.fk (y:=fun a=>Own env me a∨a=B) fun a ha=>.inr ha))).drop fun b hb=>hb.imp id fun (hb:b=B)=>hb▸ce.ge
theorem IY(Fi:bI X)(CO:bL X C k){pos:Pos}{u:V}(h1:ak C n me e σ=some (u,σ'))(h2:iA me (.Name x xp) u=some az)
 (Rm:aT k A) (I:bB X h₀ ρ₀ env me ρ σ s) :
 wpAny (model P X.w) A (exec (.Assign [.Name x xp] e pos) env) (cO X h₀ ρ₀ env me ρ s (Own env me) .next az σ') E s:=by
 have plain:swapsWith e (some (.Name x xp)) pos.line env=pure false→wpAny (model P X.w) A (exec (.Assign [.Name x xp] e pos) env) (cO X h₀ ρ₀ env me ρ s (Own env me) .next az σ') E s:=by
  intro hs;refine wpAny_Assign_Name (wm (mY Fi CO n h1 Rm I.aG I.rel I.en) (fun w s₁ hw=>?_)) hs;obtain⟨ah,S,Am,R,rv⟩:=hw;have I₁:=I.after S Am R;refine lC (mT h2) ?_;rintro x' p' hx q1 q2 q3 rfl;cases hx;exact oh Fi I₁ rv q2 q3 q1 fun s' I' F=>⟨ah,.next,I',S.fk.trans F,rfl⟩
 by_cases hL:∃elt gens scope p,e=.ListComp elt gens scope p
 ·refine o9 hL ?_;clear hL;rintro elt gens scope p rfl;obtain⟨b,hb⟩:∃b,swapsWith (.ListComp elt gens scope p) (some (.Name x xp)) pos.line env=pure b:=⟨_,rfl⟩;cases b with
  | false=>exact plain hb
  | true=>
   cases n with
   | zero=>exact nn h1
   | succ n=>
    cases gens with
    | nil=>exact nn h1
    | cons g gs=>
     obtain⟨t,it,ifs,a⟩:=g;refine bZ (show xN (ak C n) (aX C n) C me elt scope σ (⟨t,it,ifs,a⟩::gs)=some (u,σ') from h1) ?_;intro hc e0;clear h1 plain;simp only [and_eq_true,decide_eq_true_eq,all_eq_true] at hc;refine au hc ?_;clear hc;intro hh;refine au hh ?_;clear hh;intro hh;refine au hh ?_;clear hh;rintro rfl ha;intro he;intro hco;refine cps fun Z kk=>?_;refine aY e0 ?_;clear e0;intro items σ₁ e1 e0;refine fL e0 ?_;clear e0;intro out fY σ₂ e2 e0;refine bJ e0 ?_;clear e0;intro hl e0;refine kk ?_;clear kk;refine au (Prod.mk.inj e0) ?_;rintro rfl rfl;rw [exec_Assign_Name_used _ _ _ _ hb];refine wpAny_bind (wpAny_standAt (wpAny_bind ?_));show wpAny _ A (do let _ ←comprehension (.ListComp elt (⟨t,it,ifs,0⟩::gs) scope p) scope env (firstIterPos (⟨t,it,ifs,0⟩::gs) p) (newList []) false (eval it env) (some (assign (.Name x xp) env))) _ _ s
     exact wpAny_bind (wm (Cy Fi (mY Fi CO n) (HE Fi CO n) CO hco ha (fun hh=>by simpa [hh] using he) e1 e2 hl (use:=some (assign (.Name x xp) env))
      (Q:=fun Z s'=>cO X h₀ ρ₀ env me ρ s (Own env me) .next az σ₂ .next s') Rm I.aG I.rel I.en fun acc B s' ah ce f=>I0 Fi h2 I ce) (fun Z s' hq=>wpAny_pure (wpAny_pure hq)))
 ·refine au (LL h1) ?_;intro q1 q2;exact plain (Vz (fun a b c d z=>hL ⟨a,b,c,d,z⟩) q1 q2)
theorem G6:∀{e:Expr},(∀p q,e≠.Starred p q)→PySem.swappedStores.match_5 (motive:=fun Z=>Bool) e (fun Z Z=>true) (fun Z=>false)=false:=by
 intro e he;cases e with
 | Starred=>exact absurd rfl (he _ _)
 | _=>rfl
noncomputable def AA(bk st:Bool)(N:List Str)(fd ca:Bool):Sem (Option (List Str)):=
 if bk then pure none else if st then pure none else if N.length != 2||N.eraseDups.length != N.length then pure none else if fd then pure none else if ca then (unsupported "assign.tuple-of-constant-expressions:order-of-the-stores" >>= fun Z:Unit=>pure (some N)) else pure (some N)
theorem Vy(N:List Str)(fd:Bool):AA false false N fd false=pure none∨(AA false false N fd false=pure (some N)∧N.length=2):=by
 show (if (N.length != 2||N.eraseDups.length != N.length)=true then pure none else if fd then pure none else pure (some N))=_∨(if (N.length != 2||N.eraseDups.length != N.length)=true then pure none else if fd then pure none else pure (some N))=_∧_
 by_cases h:(N.length != 2||N.eraseDups.length != N.length)=true
 ·exact .inl (if_pos h)
 ·rw [if_neg h];cases fd with
  | true=>exact .inl rfl
  | false=>exact .inr ⟨rfl,byContradiction fun z=>h (by rw [bne_iff_ne.mpr z];rfl)⟩
theorem V0:∀{b1 b2:Bool},(([if b1 then some x else none,if b2 then some y else none]:List (Option Str)).filterMap id).length=2→b1=true∧b2=true:=by
 intro b1 b2 h;cases b1<;>cases b2<;>first|exact⟨rfl,rfl⟩|cases h
theorem uW{α:Type}{l:List α}(h:l.length=2):∃x y,l=[x,y]:=by
 exact⟨_,_,List.eq_getElem_of_length_eq_two l h⟩
theorem swapped{ts vs:List Expr}(hp:qk ts=some (x,y)){tk vk:Nat}{tp vp:Pos}(hv:vs.length=2)(hns:∀e∈vs,∀a b,e≠.Starred a b)(rC:vs.all (constantsAlone 8)=false)(hk:env.scope.kind=.function) :
 swappedStores [.Tuple ts tk tp] (.Tuple vs vk vp) env=pure none∨(swappedStores [.Tuple ts tk tp] (.Tuple vs vk vp) env=pure (some [x,y])∧env.kindOf x=some .local∧env.kindOf y=some .local):=by
 refine bK (Gg hp) ?_;rintro p1 p2 rfl hxy;refine fq (uW hv) ?_;rintro a b rfl
 ·have NO:(env.blockKind != .function)=false:=by
   have:env.blockKind=.function:=by simp [Env.blockKind,hk,ScopeKind.isAnnotationScope]
   rw [this];rfl
  obtain⟨st,hst,e⟩:∃st,st=false∧swappedStores [.Tuple [.Name x p1,.Name y p2] tk tp] (.Tuple [a,b] vk vp) env=AA (env.blockKind != .function) st
   (([if env.kindOf x==some .local&&p1.line==p1.line then some x else none,if env.kindOf y==some .local&&p2.line==p1.line then some y else none]:List (Option Str)).filterMap id) ([a,b].all (foldedForSure 8)) ([a,b].all (constantsAlone 8)):=by
   refine⟨_,?_,rfl⟩;exact or_eq_false_iff.mpr ⟨G6 (hns a mem_cons_self),or_eq_false_iff.mpr ⟨G6 (hns b (mem_cons_of_mem _ mem_cons_self)),rfl⟩⟩
  rw [e,NO,hst,rC];refine Or.elim (Vy _ _) .inl fun h=>.inr ?_;obtain⟨h1,h2⟩:=V0 h.2;refine⟨h.1.trans ?_,eq_of_beq (and_eq_true_iff.mp h1).1,eq_of_beq (and_eq_true_iff.mp h2).1⟩;rw [h1,h2];rfl
end
section
variable{ρ ρ₀:aB}{env:Env}{h₀:Heap}{σ σ':aa}{s:Shared}{x y:Str}{u:V}{A:Around}{E:Value→Shared→Prop}{vs:List Expr}{vk:Nat}{vp:Pos}
variable{X:Ctx}{C:Calls}{k n:Nat}
theorem LQ{ev:ao→Expr→aa→Option (V×aa)}{me:ao}:∀{es:List Expr} {σ:aa} {us:List V} {σ':aa},b7 ev me es σ=some (us,σ')→us.length=es.length∧∀e∈es,∀a b,e≠.Starred a b:=by
 intro es
 induction es with
 | nil=>intro σ us σ' h;refine au (fT h) ?_;rintro rfl rfl;exact⟨rfl,by simp⟩
 | cons e r rc=>
  intro σ us σ' h;obtain⟨h1,v,σ₁,vs,σ₂,e1,e2,e3⟩:=pq h;simp only [Prod.mk.injEq] at e3;refine au e3 ?_;clear e3;rintro rfl rfl;refine au (rc e2) ?_;intro q1 q2;refine⟨by simp [q1],fun e' he=>?_⟩
  rcases mem_cons.mp he with rfl|he
  ·exact h1
  ·exact q2 e' he
theorem b5.congr{me az:ao}{h:Heap}(H:b5 X ρ env me h)(h1:az.names=me.names)(h2:∀x,az.vars x=me.vars x)(h3:az.code=me.code)(h4:az.qual=me.qual):b5 X ρ env az h where
 kind:=H.kind
 globals:=H.globals
 builtins:=H.builtins
 code:=fun z=>by rw [h3] at z ⊢;exact H.code z
 qual:=H.qual.trans h4.symm
 names:=fun x k e=>H.names x k (h1▸e)
 loc:=by
  refine aj H.loc ?_;intro m a b;exact⟨m,a,fun x u e1 e2=>b x u (h1▸e1) (by rw [←h2];exact e2)⟩
 cell:=fun x k e1 e2=>by
  refine bV (H.cell x k (h1▸e1) e2) ?_;intro c ov q1 q2 q3 q4;exact⟨c,ov,q1,q2,q3,fun u hu=>q4 u (by rw [←h2];exact hu)⟩
 priv:=H.priv
 pl:=fun⟨x,e⟩ y u e1 e2=>H.pl ⟨x,h1▸e⟩ y u (h1▸e1) (by rw [←h2];exact e2)
 inj:=H.inj
 pv:=H.pv
theorem bB.congr{me az:ao}(I:bB X h₀ ρ₀ env me ρ σ s)(h1:az.names=me.names)(h2:∀x,az.vars x=me.vars x)(h3:az.code=me.code)(h4:az.qual=me.qual):bB X h₀ ρ₀ env az ρ σ s:=
 ⟨I.aG,I.rel,I.en.congr h1 h2 h3 h4,I.step,I.base,I.jm,fun x c e=>I.gw x c (h1▸e)⟩
theorem ao.set_comm{me:ao}{v:V}(h:x≠y)(z:Str):((me.set x u).set y v).vars z=((me.set y v).set x u).vars z:=by
 rw [jy,jy,jy,jy]
 by_cases h1:z=y
 ·subst h1;have:¬z=x:=fun w=>h w.symm;simp [this]
 ·by_cases h2:z=x
  ·subst h2;simp [h]
  ·simp [h1,h2]
theorem I4{me az:ao}{a b:Expr}{us:List V}(h:oM me [a,b] us=some az):∃u1 u2 bu,us=[u1,u2]∧iA me a u1=some bu∧iA bu b u2=some az:=by
 cases us with
 | nil=>exact nn h
 | cons u1 us=>
  refine aH h ?_;clear h;intro bu e1 h;cases us with
  | nil=>exact nn h
  | cons u2 us=>
   refine aH h ?_;clear h;intro fY e2 h;cases us with
   | nil=>obtain rfl:=Option.some.inj h;exact⟨u1,u2,bu,rfl,e1,e2⟩
   | cons=>exact nn h
theorem Vk(Fi:bI X){me:ao}{u1 u2:V}{w:Value}{s₁:Shared}{ah:List (Addr×Addr)}(hh:A.handled=none)
 (S:Step X ρ ⟨ah,ρ.priv⟩ s.heap s₁.heap) (I₁:bB X h₀ ρ₀ env me ⟨ah,ρ.priv⟩ σ' s₁) (rv:VR X ⟨ah,ρ.priv⟩ s₁.heap w (.tup [u1,u2])) (hxy:x≠y)
 (p1:u1.plain=true) (p2:jk (me.names.lookup x)=true) (p3:me.names.lookup x≠some .free) (q1:u2.plain=true) (q2:jk (me.names.lookup y)=true) (q3:me.names.lookup y≠some .free) (ts:List (Value→Sem Unit)) :
 wpAny (model P X.w) A (assignStores env w (some [x,y]) ts) (cO X h₀ ρ₀ env me ρ s (Own env me) .next ((me.set x u1).set y u2) σ') E s₁:=by
 refine bV rv.inv ?_;rintro a ws rfl pt hnf rs;refine bw rs.inv ?_;intro w1 l1 hl1 r1 rs;refine bw rs.inv ?_;rintro w2 l2 rfl r2 rs;obtain rfl:=rs.nil_inv;unfold assignStores;refine wpAny_bind (wpAny_rule (wpAny_bind ?_));have hsz:([x,y]:List Str).length=ws.size:=(congrArg length hl1).symm;rw [hsz];refine mR (le_refl _) (wpAny_mono (wpAny_unpackItems_tuple (E:=fun Z Z=>False) (Q:=fun l s'=>l=ws.toList∧∃h',ExtBut s₁.heap.objs.size s₁.heap h'∧s'={ s₁ with heap:=h' }) hh pt.is fun h' eb=>⟨rfl,h',eb,rfl⟩) ?_ fun Z Z e=>e.elim)
 intro l s' hh;obtain⟨rfl,h',eb,rfl⟩:=hh;intro hs;have G:aM s₁.heap h':=⟨fun b o e=>eb b o (ne_of_lt (lt_size e)) e,hs⟩;have I₂:bB X h₀ ρ₀ env me ⟨ah,ρ.priv⟩ σ' { s₁ with heap:=h' }:=I₁.quiet Fi (s':={ s₁ with heap:=h' }) G.quiet (fun Z Z f=>f.elim) (fun Z f=>f.elim) (fun Z Z f=>f.elim)
 rw [hl1];have M:=(G.quiet (ρ:=⟨ah,ρ.priv⟩)).mono;show wpAny _ A (assignInOrder [fun v=>bindName env y v,fun v=>bindName env x v] [w2,w1]>>=fun Z=>pure Flow.next) _ E _
 refine wpAny_bind (wpAny_assignInOrder_more (wpAny_bindName (oh Fi I₂ (r2.mono M (.inl rfl)) q2 q3 q1 fun s₃ I₃ F₃=>?_)));refine wpAny_assignInOrder_more (wpAny_bindName (oh Fi I₃ ((r1.mono M (.inl rfl)).mono (F₃.mono (ρ:=⟨ah,ρ.priv⟩) I₂.aG (qj I₂)) (.inr p1)) p2 p3 p1 fun s₄ I₄ F₄=>wpAny_assignInOrder_none (wpAny_pure ?_)));exact⟨ah,.next,I₄.congr rfl (ao.set_comm hxy) rfl rfl,S.fk.trans (((G.quiet (ρ:=⟨ah,ρ.priv⟩)).fk (y:=Own env me) (fun Z f=>f.elim)).trans (F₃.trans F₄)),rfl⟩
theorem VZ{me:ao}(h1:ak C n me (.Tuple vs vk vp) σ=some (u,σ')):∃us,u=.tup us∧us.length=vs.length∧∀e∈vs,∀a b,e≠.Starred a b:=by
 cases n with
 | zero=>exact nn h1
 | succ n=>refine aY h1 ?_;intro ws σ₁ e1 h;refine bJ h ?_;clear h;intro _ h;refine au (Prod.mk.inj h) ?_;rintro rfl rfl;refine au (LQ e1) ?_;intro q1 q2;exact⟨_,rfl,q1,q2⟩
theorem IZ(Fi:bI X)(CO:bL X C k){me az:ao}{ts:List Expr}{tk:Nat}{tp pos:Pos}{xy:Str×Str}(hp:qk ts=some xy)(rC:vs.all (constantsAlone 8)=false)
 (h1:ak C n me (.Tuple vs vk vp) σ=some (u,σ')) (hpl:u.plain=true) (h2:cM me (.Tuple ts tk tp) u=some az)
  (Rm:aT k A) (I:bB X h₀ ρ₀ env me ρ σ s) :
 wpAny (model P X.w) A (exec (.Assign [.Tuple ts tk tp] (.Tuple vs vk vp) pos) env) (cO X h₀ ρ₀ env me ρ s (Own env me) .next az σ') E s:=by
 obtain⟨x,y⟩:=xy;refine bQ (VZ h1) ?_;rintro us rfl hlen hns;refine bK (Gg hp) ?_;rintro p1 p2 rfl hxy;refine dw (I4 (show oM me [.Name x p1,.Name y p2] us=some az from h2)) ?_;rintro u1 u2 bu rfl e1 e2;have ev:=mY Fi CO n h1 Rm I.aG I.rel I.en (E:=E);rcases swapped hp hlen.symm hns rC I.en.kind (tk:=tk) (vk:=vk) (tp:=tp) (vp:=vp) with hsw|⟨hsw,_⟩
 ·refine wpAny_Assign_stores (wm ev (fun w s₁ hw=>?_)) rfl hsw;obtain⟨ah,S,Am,R,rv⟩:=hw;show wpAny _ A (assign (.Tuple [.Name x p1,.Name y p2] tk tp) env w) _ E s₁;exact xg Fi Rm.handled (I.after S Am R) rv hpl (t:=.Tuple [.Name x p1,.Name y p2] tk tp) h2 fun s' I' F hn=>⟨ah,.next,I',S.fk.trans F,hn⟩
 ·refine lC (mT e1) ?_;rintro _ _ hx a1 a2 a3 rfl;cases hx;refine lC (mT e2) ?_;rintro _ _ hx b1 b2 b3 rfl;cases hx;show wpAny _ A (standAt pos>>=fun Z=>(pure false:Sem Bool)>>=fun b=>if b=true then (evalThenUse (.Tuple vs vk vp) env (fun v=>assignAll v ((assignEach [.Tuple [.Name x p1,.Name y p2] tk tp] env).map (·.2)))>>=fun Z=>pure Flow.next)
   else (eval (.Tuple vs vk vp) env>>=fun v=>swappedStores [.Tuple [.Name x p1,.Name y p2] tk tp] (.Tuple vs vk vp) env>>=fun sw=>assignStores env v sw ((assignEach [.Tuple [.Name x p1,.Name y p2] tk tp] env).map (·.2)))) _ E s
  refine wpAny_bind (wpAny_standAt (wpAny_bind (wpAny_pure ?_)));show wpAny _ A (eval (.Tuple vs vk vp) env>>=fun v=>swappedStores [.Tuple [.Name x p1,.Name y p2] tk tp] (.Tuple vs vk vp) env>>=fun sw=>assignStores env v sw ((assignEach [.Tuple [.Name x p1,.Name y p2] tk tp] env).map (·.2))) _ E s
  refine wpAny_bind (wm ev (fun w s₁ hw=>?_));obtain⟨ah,S,Am,R,rv⟩:=hw;rw [hsw];exact wpAny_bind (wpAny_pure (Vk Fi Rm.handled S (I.after S Am R) rv hxy a1 a2 a3 b1 b2 b3 _))
end
section
variable{A:Around}{h₀:Heap}{ρ₀ ρ:aB}{env:Env}{me az:ao}{σ σ':aa}{s:Shared}{t e:Expr}{body orelse:List Stmt}{fl:Fl}{E:Value→Shared→Prop}{pos:Pos}
variable{X:Ctx}{C:Calls}{k n:Nat}
inductive Bc(X:Ctx)(run:List V→ao→aa→Option (Fl×ao×aa))(fl:Fl)(me az:ao)(σ':aa)(h₀:Heap)(ρ₀ ρ:aB)(env:Env)(s:Shared)(xs:List Addr)(it:Addr)(m:Nat)(s':Shared):Prop
 | mk (items':List V) (bu:ao) (σ₁:aa) (cu:List (Addr×Addr)):items'.length=m→run items' bu σ₁=some (fl,az,σ')→bu.names=me.names→bB X h₀ ρ₀ env bu ⟨cu,ρ.priv⟩ σ₁ s'→
  cz X ⟨cu,ρ.priv⟩ s'.heap xs it items'→V.bD items'=true→(∀a∈xs,h₀.objs.size≤a∧a∉lp cu)→FK X (fun a=>Own env me a∨a∈xs) ρ.ah cu s.heap s'.heap→Bc X run fl me az σ' h₀ ρ₀ ρ env s xs it m s'
inductive Bk(X:Ctx)(run:Nat→ao→aa→Option (Fl×ao×aa))(fl:Fl)(me az:ao)(σ':aa)(h₀:Heap)(ρ₀ ρ:aB)(env:Env)(s:Shared)(m:Nat)(s':Shared):Prop
 | mk (bu:ao) (σ₁:aa) (cu:List (Addr×Addr)):run m bu σ₁=some (fl,az,σ')→bu.names=me.names→bB X h₀ ρ₀ env bu ⟨cu,ρ.priv⟩ σ₁ s'→FK X (Own env me) ρ.ah cu s.heap s'.heap→Bk X run fl me az σ' h₀ ρ₀ ρ env s m s'
theorem M4(Fi:bI X)(IX:mz X C k n){items:List V}{xs:List Addr}{it:Addr}(Rm:aT k A)
 (h:m5 (aU C n) t body orelse items me σ=some (fl,az,σ')) (I:bB X h₀ ρ₀ env me ρ σ s) (J:cz X ρ s.heap xs it items) (hp:V.bD items=true) (hx:∀a∈xs,h₀.objs.size≤a∧a∉lp ρ.ah)
 (hy:∀a∈xs,¬Own env me a) (ht:xs.length=1∨ez t=true) :
 codeAny (model P X.w) A (.forLoop t (.ref it) body orelse env) (fun r s'=>∃f,r=.ok f∧cO X h₀ ρ₀ env me ρ s (fun a=>Own env me a∨a∈xs) fl az σ' f s') s:=by
 have ownEq:∀{bu:ao},bu.names=me.names→Own env bu=Own env me:=fun h=>qI h;refine codeAny_forLoop_any (I:=Bc X (m5 (aU C n) t body orelse) fl me az σ' h₀ ρ₀ ρ env s xs it) ?_ items.length
  ⟨items,me,σ,ρ.ah,rfl,h,rfl,I,J,hp,hx,FK.refl _ _⟩
 intro m s₁ hh;refine cps fun Z kk=>?_;obtain⟨items',bu,σ₁,cu,rfl,h₁,hn₁,I₁,J₁,hp₁,lP,F₁⟩:=hh;refine kk ?_;clear kk;have hx':∀a∈xs,nB≤a∧a∉lp cu:=fun a ha=>⟨le_trans I₁.base (lP a ha).1,(lP a ha).2⟩;have hk:∀a o,a∈xs→s₁.heap.get? a=some o→(∀es ep,o.data≠.dict es ep)∧∀v,o.data≠.cell v:=fun a o ha e=>by
  refine cY (jl J₁ a ha) ?_;intro o' T vs e' c hT d;obtain rfl:=Option.some.inj (e.symm.trans e');rw [d];exact⟨fun Z Z z=>(by cases z),fun Z z=>(by cases z)⟩
 cases items' with
 | nil=>refine next_end Rm.handled J₁ rfl hx' fun s₂ Qt ho hg=>?_;have I₂:=I₁.quiet Fi Qt hk (fun a ha=>(lP a ha).1) (uS J₁) ho hg;refine wm (IX h₁ Rm I₂) (fun f s₃ hf=>?_);refine⟨f,rfl,cO.after (F₁.trans (Qt.fk (ρ:=⟨cu,ρ.priv⟩) fun a ha=>.inr ha)) hn₁ ?_⟩;obtain⟨l,a,b,c,d⟩:=hf;exact⟨l,a,b,(ownEq hn₁▸c:FK X (Own env me) _ _ _ _).weak fun a ha=>.inl ha,d⟩
 | cons v items'=>
  refine aH h₁ ?_;clear h₁;intro fY e1 h₁;refine fL h₁ ?_;clear h₁;intro MU jq σ₂ e2 h₁;have hp₁:=and_eq_true_iff.mp hp₁;refine wm (next_item (tgt:=t) I₁.rel J₁ rfl hx' ht (Q:=fun w s₂=>Quiet true ⟨cu,ρ.priv⟩ (·∈xs) s₁.heap s₂.heap∧s₂.os=s₁.os∧s₂.gens=s₁.gens∧VR X ⟨cu,ρ.priv⟩ s₂.heap w v∧cz X ⟨cu,ρ.priv⟩ s₂.heap xs it items')
   fun w s₂ q1 q2 q3 q4 q5=>⟨q1,q2,q3,q4,q5⟩) (fun r s₂ hr=>?_)
  refine aj hr ?_;clear hr;rintro w rfl hr;refine wm hr (fun Z s₃ Eh=>?_);refine CF Eh ?_;clear Eh;intro Qt ho hg rv J₂;have I₂:=I₁.quiet Fi Qt hk (fun a ha=>(lP a ha).1) (uS J₁) ho hg;refine xg Fi Rm.handled I₂ rv hp₁.1 e1 fun s₄ I₄ F₄ n₄=>?_;have O1:∀a∈xs,¬Own env bu a:=fun a ha=>by rw [ownEq hn₁];exact hy a ha
  have J₄:cz X ⟨cu,ρ.priv⟩ s₄.heap xs it items':=J₂.fk I₂.aG F₄ (qj I₂) (fun a ha=>⟨O1 a ha,(lP a ha).2⟩) hp₁.2;refine wm (IX e2 Rm I₄) (fun f s₅ hf=>?_);obtain⟨fB,rf,I₅,F₅,n₅⟩:=hf;have zQ:jq.names=me.names:=n₅.trans (n₄.trans hn₁);have O2:∀a∈xs,¬Own env fY a:=fun a ha=>by rw [ownEq (n₄.trans hn₁)];exact hy a ha
  have wG:FK X (fun a=>Own env me a∨a∈xs) ρ.ah fB s.heap s₅.heap:=by
   have c1:FK X (Own env me) cu cu s₃.heap s₄.heap:=ownEq hn₁▸F₄;have c2:FK X (Own env me) cu fB s₄.heap s₅.heap:=ownEq (n₄.trans hn₁)▸F₅;exact ((F₁.trans (Qt.fk (ρ:=⟨cu,ρ.priv⟩) fun a ha=>.inr ha)).trans (c1.weak fun a ha=>.inl ha)).trans (c2.weak fun a ha=>.inl ha)
  cases rf with
  | next=>
   have zd:∀a∈xs,h₀.objs.size≤a∧a∉lp fB:=fun a ha=>⟨(lP a ha).1,fun z=>by
    refine bG (jl J₄ a ha) ?_;intro o _ _ e _;exact absurd (F₅.cI a z (lP a ha).2) (not_le.mpr (lt_size e))⟩
   have J₅:cz X ⟨fB,ρ.priv⟩ s₅.heap xs it items':=J₄.fk I₄.aG F₅ (qj I₄) (fun a ha=>⟨O2 a ha,(lP a ha).2⟩) hp₁.2;exact⟨items'.length,lt_succ_self _,items',jq,σ₂,fB,rfl,h₁,zQ,I₅,J₅,hp₁.2,zd,wG⟩
  | brk=>have h₁:=jz h₁;refine bO h₁ ?_;clear h₁;rintro rfl rfl rfl;exact⟨.next,rfl,fB,.next,I₅,wG,zQ⟩
  | ret rw=>have h₁:=jz h₁;refine bO h₁ ?_;clear h₁;rintro rfl rfl rfl;exact⟨_,rfl,fB,.ret rw,I₅,wG,zQ⟩
theorem Wv(IX:mz X C k n)(IT:gO X C k n){test:Expr}{m:Nat}(Rm:aT k A)
 (h:gI (aU C n) (aX C n) test body orelse m me σ=some (fl,az,σ')) (I:bB X h₀ ρ₀ env me ρ σ s) :
 codeAny (model P X.w) A (.whileLoop test body orelse env) (fun r s'=>∃f,r=.ok f∧cO X h₀ ρ₀ env me ρ s (Own env me) fl az σ' f s') s:=by
 refine codeAny_whileLoop (I:=Bk X (gI (aU C n) (aX C n) test body orelse) fl me az σ' h₀ ρ₀ ρ env s) ?_ m ⟨me,σ,ρ.ah,h,rfl,I,FK.refl _ _⟩;intro m s₁ hh;obtain⟨bu,σ₁,cu,h₁,n₁,I₁,F₁⟩:=hh;have Gf:Own env bu=Own env me:=qI n₁;cases m with
 | zero=>exact nn h₁
 | succ m=>
  refine aY h₁ ?_;clear h₁;intro b σ₂ e1 h₁;refine wm (IT e1 Rm I₁.aG I₁.rel I₁.en) (fun c s₂ hc=>?_);obtain⟨nL,S₂,cX,R₂,rfl⟩:=hc;have I₂:=I₁.after S₂ cX R₂;have F₂:FK X (Own env me) ρ.ah nL s.heap s₂.heap:=F₁.trans S₂.fk;cases c with
  | true=>
   refine fL h₁ ?_;clear h₁;intro MU jq σ₃ e2 h₁;rw [if_pos rfl];refine wm (IX e2 Rm I₂) (fun f s₅ hf=>?_);obtain⟨fB,rf,I₅,F₅,n₅⟩:=hf;rw [Gf] at F₅;cases rf with
   | next=>exact⟨m,lt_succ_self _,jq,σ₃,fB,h₁,n₅.trans n₁,I₅,F₂.trans F₅⟩
   | brk=>have h₁:=jz h₁;refine bO h₁ ?_;clear h₁;rintro rfl rfl rfl;exact⟨.next,rfl,fB,.next,I₅,F₂.trans F₅,n₅.trans n₁⟩
   | ret rw=>have h₁:=jz h₁;refine bO h₁ ?_;clear h₁;rintro rfl rfl rfl;exact⟨_,rfl,fB,.ret rw,I₅,F₂.trans F₅,n₅.trans n₁⟩
  | false=>rw [if_neg Bool.false_ne_true];refine wm (IX h₁ Rm I₂) (fun f s₅ hf=>?_);refine⟨f,rfl,cO.after F₂ n₁ ?_⟩;obtain⟨l,a,b,c,d⟩:=hf;exact⟨l,a,b,Gf▸c,d⟩
theorem xR{Y:Addr→Prop}{ya:Fl}{bu:ao}{σ₁:aa}{t:Shared}{c:Sem Flow}(h:(ya,bu,σ₁)=(fl,az,σ'))
 (k:wpAny (model P X.w) A c (cO X h₀ ρ₀ env me ρ s Y ya bu σ₁) E t):wpAny (model P X.w) A c (cO X h₀ ρ₀ env me ρ s Y fl az σ') E t:=by cases h;exact k
theorem VA(e o i:Expr)(sp:Pos)(l:Nat)(env:Env):swapsWith e (some (.Subscript o i sp)) l env=pure false:=by cases e<;>rfl
theorem IW(Fi:bI X)(CO:bL X C k)(h:BC (ak C n) me t e σ=some (fl,az,σ'))
 (Rm:aT k A) (I:bB X h₀ ρ₀ env me ρ σ s):wpAny (model P X.w) A (exec (.Assign [t] e pos) env) (cO X h₀ ρ₀ env me ρ s (Own env me) fl az σ') E s:=by
 have EV:dg X C k n:=mY Fi CO n;rcases ER h with⟨x,xp,rfl,h⟩|h
 ·refine aY h ?_;clear h;intro v σ₁ e1 h;refine bW h ?_;clear h;intro bu e2 h;refine xR h ?_;exact IY Fi CO e1 e2 Rm I
 rcases Qs h with⟨ts,tk,tp,rfl,h⟩|h
 ·refine cps fun Z kk=>?_;refine aH h ?_;clear h;intro vs e0 h;refine aH h ?_;clear h;intro xy hp h;refine bZ h ?_;clear h;intro rC h;refine aY h ?_;clear h;intro v σ₁ e1 h;refine bZ h ?_;clear h;intro hpl h;refine bW h ?_;clear h;intro bu e2 h;refine kk ?_;clear kk;refine xR h ?_;refine fq (AL e0) ?_;rintro c p rfl;exact IZ Fi CO hp rC e1 hpl e2 Rm I
 refine bG (nG nS h) ?_;rintro o i sp rfl h
 ·refine cps fun Z kk=>?_;refine aY h ?_;clear h;intro v σ₁ e1 h;refine aY h ?_;clear h;intro ov σ₂ e2 h;refine aY h ?_;clear h;intro iv σ₃ e3 h;refine bW h ?_;clear h;intro σ₄ e4 h;refine kk ?_;clear kk;refine xR h ?_;have hs:=VA e o i sp pos.line env;refine wpAny_Assign_Subscript (wm (EV e1 Rm I.aG I.rel I.en) (fun w s₁ hw=>?_)) hs;obtain⟨l1,S1,A1,R1,r1⟩:=hw;have H1:=I.en.step I.aG I.rel S1 rfl;refine wm (EV e2 Rm A1 R1 H1) (fun w2 s₂ hw=>?_);obtain⟨l2,S2,A2,R2,r2⟩:=hw;refine wm (EV e3 Rm A2 R2 (H1.step A1 R1 S2 rfl)) (fun w3 s₃ hw=>?_);obtain⟨l3,S3,A3,R3,r3⟩:=hw;refine wm (GW Fi A3 R3 (r2.step A2 S3) r3 ((r1.step A1 S2).step A2 S3) e4) (fun Z s₄ hw=>?_);refine bO hw ?_;clear hw;intro S4 A4 R4;exact Step.n5 I (((S1.trans S2).trans S3).trans S4) A4 R4 .next
theorem I8(Fi:bI X)(CO:bL X C k){op:Operator}(h:BD (ak C n) C me t op e σ=some (fl,az,σ'))
 (Rm:aT k A) (I:bB X h₀ ρ₀ env me ρ σ s):wpAny (model P X.w) A (exec (.AugAssign t op e pos) env) (cO X h₀ ρ₀ env me ρ s (Own env me) fl az σ') E s:=by
 have EV:dg X C k n:=mY Fi CO n;rcases ER h with⟨x,xp,rfl,h⟩|h
 ·refine cps fun Z kk=>?_;refine aH h ?_;clear h;intro old e0 h;refine aY h ?_;clear h;intro v σ₁ e1 h;refine aH h ?_;clear h;intro r e2 h;refine bW h ?_;clear h;intro bu e3 h;refine kk ?_;clear kk;refine xR h ?_;refine wpAny_AugAssign_Name ((gW CO e0 I.aG I.en (pos:=xp) fun ow ro=>wm (EV e1 Rm I.aG I.rel I.en) (fun w s₁ hw=>?_)).1);obtain⟨l1,S1,A1,R1,r1⟩:=hw;refine wm (BF A1 R1 (ro.step I.aG S1) r1 e2) (fun w2 s₂ hw=>?_);obtain⟨l2,S2,A2,R2,r2⟩:=hw;refine lC (mT e3) ?_;rintro _ _ hx a1 a2 a3 rfl;cases hx;exact oh Fi (I.after (S1.trans S2) A2 R2) r2 a2 a3 a1 fun s' I' F=>⟨l2,.next,I',(S1.trans S2).fk.trans F,rfl⟩
 refine bG (nG nS h) ?_;rintro o i sp rfl h
 ·refine cps fun Z kk=>?_;refine aH h ?_;clear h;intro ix e0 h;refine aY h ?_;clear h;intro ov σ₁ e1 h;refine aH h ?_;clear h;intro iv e2 h;refine aH h ?_;clear h;intro j ej h;refine aH h ?_;clear h;intro l hl h;refine bZ h ?_;clear h;intro hj h;refine aH h ?_;clear h;intro old e3 h;refine aY h ?_;clear h;intro v σ₂ e4 h;refine aH h ?_;clear h;intro r e5 h;refine bW h ?_;clear h;intro σ₃ e6 h;refine kk ?_;clear kk;refine xR h ?_;refine aA (zK e0) ?_;rintro ip rfl;obtain rfl:=eu ej;refine wpAny_AugAssign_SubscriptAny (wm (EV e1 Rm I.aG I.rel I.en) (fun w1 s₁ hw=>?_));obtain⟨l1,S1,A1,R1,r1⟩:=hw;have H1:=I.en.step I.aG I.rel S1 rfl;refine (gW CO e2 A1 H1 fun w2 r2=>?_).2;refine bw (iL R1 r1 hl) ?_;rintro a vs rfl pl rs;refine aj (rs.get e3) ?_;intro ow ho ro;refine aA r2.inv ?_;rintro t rfl;refine wpAny_getItem_list pl.is hj.1 (by lia) (getElem?_toList.symm.trans ho) (wm (EV e4 Rm A1 R1 H1) (fun w4 s₂ hw=>?_))
  obtain⟨l2,S2,A2,R2,r4⟩:=hw;refine wm (BF A2 R2 (ro.step A1 S2) r4 e5) (fun w5 s₃ hw=>?_);obtain⟨l3,S3,A3,R3,r5⟩:=hw;refine wm (GW Fi A3 R3 ((r1.step A1 S2).step A2 S3) (.int j t) r5 e6) (fun Z s₄ hw=>?_);refine bO hw ?_;clear hw;intro S4 A4 R4;exact Step.n5 I (((S1.trans S2).trans S3).trans S4) A4 R4 .next
theorem LW(Fi:bI X)(CO:bL X C k)(IX:mz X C k n):wF X C k (n+1):=by
 intro me st σ fl az σ' h env A E h₀ ρ₀ ρ s Rm I;have EV:dg X C k n:=mY Fi CO n;have TR:gO X C k n:=HE Fi CO n;cases st with
 | Expr e pos=>
  refine fu (pK nS h) ?_;rintro f as kws p rfl h
  ·refine aY h ?_;clear h;intro v σ₁ e1 h;refine bW h ?_;clear h;intro _ e2 h;refine xR h ?_;obtain rfl:=none_of e2;refine wpAny_Expr (wm (EV e1 Rm I.aG I.rel I.en) (fun w s₁ hw=>?_)) (by simp [interactive,I.en.kind]) rfl
   obtain⟨ah,S,Am,R,rv⟩:=hw;obtain rfl:=rv.inv;exact S.n5 I Am R .next
 | Return e pos=>
  cases e with
  | none=>refine xR (Option.some.inj h) ?_;exact wpAny_Return_none ((Step.refl ρ s.heap).n5 I I.aG I.rel (.ret .none))
  | some e=>refine jS h ?_;clear h;intro v σ₁ e1 h;refine xR h ?_;refine wpAny_Return_some (wm (EV e1 Rm I.aG I.rel I.en) (fun w s₁ hw=>?_));obtain⟨ah,S,Am,R,rv⟩:=hw;exact S.n5 I Am R (.ret rv)
 | Break pos=>refine xR (Option.some.inj h) ?_;exact wpAny_Break ((Step.refl ρ s.heap).n5 I I.aG I.rel .brk)
 | Assign targets e pos=>refine aH h ?_;clear h;intro t e0 h;obtain rfl:=jv e0;exact IW Fi CO h Rm I
 | AugAssign target op e pos=>exact I8 Fi CO h Rm I
 | If t body orelse pos=>
  refine aY h ?_;clear h;intro b σ₁ e1 h;refine wpAny_If (wm (TR e1 Rm I.aG I.rel I.en) (fun c s₁ hc=>?_));obtain⟨l1,S1,A1,R1,rfl⟩:=hc;have I₁:=I.after S1 A1 R1;cases c with
  | true=>exact wm (IX h Rm I₁) (fun f s' hf=>cO.after S1.fk rfl hf)
  | false=>exact wm (IX h Rm I₁) (fun f s' hf=>cO.after S1.fk rfl hf)
 | For t it body orelse pos=>
  refine bZ h ?_;clear h;intro hc h;refine aY h ?_;clear h;intro items σ₁ e1 h;refine wpAny_For (wm (zp EV CO e1 Rm I.aG I.rel I.en) (fun x s₁ hx=>wm hx (fun itv s₂ hI=>?_))) (yg e1 env);refine lD hI ?_;clear hI;intro ah xs EM J;obtain rfl:=J.eq;have I₂:=I.after J.step J.aG J.rel;have hown:∀a∈xs,¬Own env me a:=by
   intro a ha hy;refine cY (jl J.at' a ha) ?_;intro o T vs e c hT d;rcases vB I₂ hy e with⟨es,ep,d'⟩|⟨v,d'⟩<;>(rw [d] at d';cases d')
  have ht:xs.length=1∨ez t=true:=by
   rcases J.one with h|h
   ·exact .inl h
   ·rw [h] at hc;exact .inr hc
  refine codeAny_mono (M4 Fi IX Rm h I₂ J.at' J.bD (fun a ha=>⟨le_trans I.step.size (J.new a ha).1,(J.new a ha).2⟩) hown ht) fun r s' hr=>?_;obtain⟨f,rfl,l,a,b,c,d⟩:=hr;refine⟨l,a,b,(J.step.fk.trans c).drop fun b hb=>?_,d⟩;rcases hb with hb|hb
  ·exact .inl hb
  ·exact .inr (J.new b hb).1
 | While test body orelse pos=>refine wpAny_While (codeAny_mono (Wv IX TR Rm h I) fun r s' hr=>?_);refine aj hr ?_;clear hr;rintro f rfl hf;exact hf
 | _=>exact nn h
theorem LX(IX:wF X C k n)(HX:mz X C k n):mz X C k (n+1):=by
 intro me st σ fl az σ' h env A E h₀ ρ₀ ρ s Rm I;cases st with
 | nil=>refine bO (jz h) ?_;rintro rfl rfl rfl;exact wpAny_execs_nil ((Step.refl ρ s.heap).n5 I I.aG I.rel .next)
 | cons st rest=>
  refine fL h ?_;clear h;intro ya bu σ₁ e1 h;refine wpAny_execs_cons (wm (IX e1 Rm I) (fun f s₁ hf=>?_));obtain⟨l,rf,I₁,F₁,n₁⟩:=hf;cases rf with
  | next=>have ho:Own env bu=Own env me:=qI n₁;refine wm (HX h Rm I₁) (fun f s₂ hf=>cO.after F₁ n₁ ?_);rw [←ho];exact hf
  | brk=>refine bO (jz h) ?_;rintro rfl rfl rfl;exact⟨l,.brk,I₁,F₁,n₁⟩
  | ret rw=>refine bO (jz h) ?_;rintro rfl rfl rfl;exact⟨l,.ret rw,I₁,F₁,n₁⟩
theorem ud(Fi:bI X)(CO:bL X C k):∀n,wF X C k n∧mz X C k n:=by
 intro n
 induction n with
 | zero=>exact⟨by intro _ _ _ _ _ _ h;exact nn h,by intro _ _ _ _ _ _ h;exact nn h⟩
 | succ n rc=>refine au (rc) ?_;intro a b;exact⟨LW Fi CO b,LX a b⟩
theorem xV(Fi:bI X)(CO:bL X C k)(n:Nat):mz X C k n:=(ud Fi CO n).2
end
section
variable{ah aO:List (Addr×Addr)}{p:List Addr}{a:Addr}{ρ ρ':aB}{h:Heap}{v:List Value}{q:Addr×Addr}
variable{X:Ctx}{C:Calls}{k n:Nat}
mutual
noncomputable def V.under(n:Nat):V→Bool
 | .loc m=>decide (m<n)
 | .tup l=>V.fG n l
 | .lst l=>V.fG n l
 | .aE _ l=>V.fG n l
 | _=>true
noncomputable def V.fG(n:Nat):List V→Bool
 | []=>true
 | v::r=>v.under n&&V.fG n r
end
noncomputable def bY.under(n:Nat):bY→Bool
 | .list l=>V.fG n l
 | .iter l=>V.fG n l
 | .acc _ l=>V.fG n l
noncomputable def j9(n:Nat)(σ:aa)(v:V):V:=(v.loc?.bind fun m=>if m<n then none else listAt σ m).elim v V.lst
noncomputable def cD(n:Nat)(σ:aa)(v:V):V×aa:=
 if (j9 n σ v).under n&&(σ.take n).all (bY.under n) then (j9 n σ v,σ.take n) else (v,σ)
theorem M5(h:ah <+: aO)(ha:a∉fp ⟨aO,p⟩):a∉fp ⟨ah,p⟩:=fun q=>ha (by
 rcases aI.mp q with z|z
 ·exact aI.mpr (.inl (r9 h z))
 ·exact aI.mpr (.inr z))
theorem yf(h:ρ.ah <+: ρ'.ah)(hp:ρ.priv=ρ'.priv)(ha:a∉fp ρ'):a∉fp ρ:=fun q=>ha (by
 rcases aI.mp q with z|z
 ·exact aI.mpr (.inl (r9 h z))
 ·exact aI.mpr (.inr (hp▸z)))
theorem VR.CB(hl:ρ.ah <+: ρ'.ah)(hp:ρ.priv=ρ'.priv):(∀{v:Value} {u:V},VR X ρ' h v u→u.under ρ.ah.length=true→VR X ρ h v u)∧
 (∀{vs:List Value} {us:List V},aC X ρ' h vs us→V.fG ρ.ah.length us=true→aC X ρ h vs us):=by
 refine VR.ind (M:=fun v u=>u.under ρ.ah.length=true→VR X ρ h v u) (Ms:=fun vs us=>V.fG ρ.ah.length us=true→aC X ρ h vs us)
  (fun Z=>.none) (fun b Z=>.bool b) (fun i t Z=>.int i t) (fun i t Z=>.str i t) (fun a b Z ih fz=>.tup a (yf hl hp b) (ih fz)) (fun a b Z ih fz=>.lst a (yf hl hp b) (ih fz))
  (fun e hb=>.loc ?_) (fun a l Z=>.base a l) (fun i Z=>.bi i) (fun n Z=>.ty n) (fun c H Z ih fz=>.aE c (fun q hq=>⟨(H q hq).1,yf hl hp (H q hq).2⟩) (ih fz)) (fun Z=>.nil)
  (fun Z Z ia ir fz=>.cons (ia (and_eq_true_iff.mp fz).1) (ir (and_eq_true_iff.mp fz).2))
 refine aA hl ?_;clear hl;intro t ht
 rwa [←ht,getElem?_append_left (of_decide_eq_true hb)] at e
theorem VR.xO(hl:ρ.ah <+: ρ'.ah)(hp:ρ.priv=ρ'.priv){v:Value}{u:V}(hb:u.under ρ.ah.length=true)(r:VR X ρ' h v u):VR X ρ h v u:=(VR.CB hl hp).1 r hb
theorem aC.xO(hl:ρ.ah <+: ρ'.ah)(hp:ρ.priv=ρ'.priv){u:List V}(hb:V.fG ρ.ah.length u=true)(r:aC X ρ' h v u):aC X ρ h v u:=(VR.CB hl hp).2 r hb
theorem VR.cut(hl:ah <+: aO){v:Value}{u:V}(hu:u.under ah.length=true)(r:VR X ⟨aO,p⟩ h v u):VR X ⟨ah,p⟩ h v u:=VR.xO (ρ:=⟨ah,p⟩) (ρ':=⟨aO,p⟩) hl rfl hu r
theorem aC.cut(hl:ah <+: aO){u:List V}(hu:V.fG ah.length u=true)(r:aC X ⟨aO,p⟩ h v u):aC X ⟨ah,p⟩ h v u:=aC.xO (ρ:=⟨ah,p⟩) (ρ':=⟨aO,p⟩) hl rfl hu r
theorem dX.cut(hl:ah <+: aO){m:bY}(hb:m.under ah.length=true)(r:dX X ⟨aO,p⟩ h q m):dX X ⟨ah,p⟩ h q m:=by
 cases r with
 | list a b c=>exact .list a (b.cut hl hb) c
 | iter a b c d e=>exact .iter a b (M5 hl c) (d.cut hl hb) e
 | acc a b c=>exact .acc a (b.cut hl hb) c
theorem Q4(h:ah.Pairwise apart){i j:Nat}{r:Addr×Addr}(hi:ah[i]?=some q)(hj:ah[j]?=some r)(hne:i≠j):apart q r:=by
 refine aA (List.getElem?_eq_some_iff.mp hi) ?_;intro hi1 hi2;refine aA (List.getElem?_eq_some_iff.mp hj) ?_;intro hj1 hj2;have hp:=List.pairwise_iff_getElem.mp h;rcases Nat.lt_or_gt_of_ne hne with z|z
 ·have:=hp i j hi1 hj1 z;rwa [hi2,hj2] at this
 ·have:=hp j i hj1 hi1 z;rw [hi2,hj2] at this;exact⟨Ne.symm this.1,Ne.symm this.2.2.1,Ne.symm this.2.1,Ne.symm this.2.2.2⟩
theorem Dp{s s':Shared}{σ':aa}{u:V}{v:Value}(S:Step X ρ ⟨aO,ρ.priv⟩ s.heap s'.heap)(Am:aq X s')(R:Rel X ⟨aO,ρ.priv⟩ σ' s'.heap)(rv:VR X ⟨aO,ρ.priv⟩ s'.heap v u) :
 aD X ρ s (cD ρ.ah.length σ' u).2 (cD ρ.ah.length σ' u).1 v s':=by
 unfold cD
 split
 ·rename_i hc;simp only [and_eq_true,all_eq_true] at hc;refine au hc ?_;clear hc;intro hb hob;have hl:ρ.ah <+: aO:=S.pre;have hle:ρ.ah.length≤aO.length:=hl.length_le;refine⟨ρ.ah,⟨S.keep,prefix_refl _,fun a q n=>absurd q n,fun a q n=>absurd q n,S.size⟩,Am,?_,?_⟩
  ·exact
   {len:=by rw [length_take,←R.len];exact (min_eq_left hle).symm
    obj:=fun i q m e1 e2=>by
     have hi:i<ρ.ah.length:=(List.getElem?_eq_some_iff.mp e1).1;refine aA hl ?_;clear hl;rintro t rfl;have Lx:σ'[i]?=some m:=by rwa [List.getElem?_take_of_lt hi] at e2
     have:=R.obj i q m (by show (ρ.ah++t)[i]?=_;rw [getElem?_append_left hi];exact e1) Lx
     exact this.cut ⟨t,rfl⟩ (hob m (mem_of_getElem? e2))
    apart:=R.apart.sublist hl.sublist
    cR:=fun a ha=>R.cR a (r9 hl ha)
    lt:=fun a ha=>R.lt a (by
     rcases aI.mp ha with z|z
     ·exact aI.mpr (.inl (r9 hl z))
     ·exact aI.mpr (.inr z))
    ge:=fun a ha=>R.ge a (by
     rcases aI.mp ha with z|z
     ·exact aI.mpr (.inl (r9 hl z))
     ·exact aI.mpr (.inr z)) }
  ·revert hb;unfold j9;cases hv:(u.loc?.bind fun m=>if m<ρ.ah.length then none else listAt σ' m) with
   | none=>intro hb;exact rv.cut hl hb
   | some l=>
    intro hb;refine aH hv ?_;intro m e1 e2;obtain rfl:=pU e1;refine aj rv.inv ?_;rintro p rfl e
    by_cases hm:m<ρ.ah.length
    ·rw [if_pos hm] at e2;exact nn e2
    ·rw [if_neg hm] at e2;refine bV ((R.obj m p _ e (rY e2)).inv) ?_;rintro a vs rfl pl rs hp;refine .lst pl (fun hf=>?_) (rs.cut hl hb);rcases aI.mp hf with z|z
     ·refine aj (dj.mp z) ?_;intro q hq je;obtain⟨i,hi,rfl⟩:=getElem_of_mem hq;have h1:aO[i]?=some ρ.ah[i]:=by
       refine aA hl ?_;clear hl;rintro t rfl;rw [getElem?_append_left hi];exact getElem?_eq_getElem hi
      have hap:=Q4 R.apart h1 e (fun z=>hm (z▸hi));rcases je with h2|h2
      ·exact hap.1 h2.symm
      ·exact hap.2.2.1 h2.symm
     ·exact R.cR a (dj.mpr ⟨_,mem_of_getElem? e,.inl rfl⟩) z
 ·exact⟨aO,S,Am,R,rv⟩
end
section
variable{ρ:aB}{kindOf:Str→Option NameKind}
variable{X:Ctx}{C:Calls}{k n:Nat}
structure b9 where
 addr:Addr
 name:Str
 body:List Stmt
 scope:Scope
 code:Value
 bind:List V→Option V→Option (List (Str×V))
noncomputable def fD(scope:Scope)(bs:List (Str×V)):Bool:=
 scope.kind==.function&&!scope.isCoroutine&&!scope.isGenerator&&(bs.all fun b=>scope.names.lookup b.1==some .local||scope.names.lookup b.1==some .cell)&&
 ((scope.names.all fun p=>!(p.2==.cell))||bs.all fun b=>b.2.plain)&&(scope.names.all fun p=>!(p.2==.free))&&decide ((bs.map (·.1)).Nodup)
noncomputable def aJ(f:b9)(bs:List (Str×V)):ao:={ names:=f.scope.names,vals:=bs,code:=f.code,qual:=f.name++".<locals>." }
noncomputable def uv(C:Calls)(fuel:Nat)(f:b9)(us:List V)(key:Option V)(σ:aa):Option (V×aa):=
 (f.bind us key).bind fun bs=>if fD f.scope bs then
  (aU C fuel (aJ f bs) f.body σ).bind fun (fl,_,σ')=>match fl with
   | .ret v=>some (cD σ.length σ' v)
   | .next=>some (cD σ.length σ' .none)
   | .brk=>none
 else none
structure gJ(X:Ctx)(f:b9)(o:Obj)(fd:FuncData):Prop where
 at':X.hB.get? f.addr=some o
 nt:¬X.tab f.addr
 data:o.data=.func fd
 scope:fd.scope=f.scope
 body:fd.body=.stmts f.body
 globals:fd.globals=mainGlobals
 builtins:fd.builtins=builtinsNs
 closure:fd.closure=[]
 name:fd.qualname=f.name
 code:fd.code=f.code
 GG:∃c co ws t,f.code=.ref c∧X.hB.get? c=some co∧¬X.tab c∧co.data=.fields ws∧ws[1]?=some (.str f.name t)
 bind:∀{us:List V} {key:Option V} {bs:List (Str×V)},f.bind us key=some bs→∀{ρ:aB} {s:Shared} {vs:List Value} {kw:List (Str×Value)},aq X s→aC X ρ s.heap vs us→j6 X ρ s.heap kw key→
  ∃binds,BindsTo s fd ⟨vs,kw⟩ binds∧binds.map (·.1)=bs.map (·.1)∧aC X ρ s.heap (binds.map (·.2)) (bs.map (·.2))
theorem qN{h:Heap}:∀{binds:List (Str×Value)} {bs:List (Str×V)},binds.map (·.1)=bs.map (·.1)→aC X ρ h (binds.map (·.2)) (bs.map (·.2))→∀{x:Str} {u:V},bs.lookup x=some u→∃v,binds.lookup x=some v∧VR X ρ h v u:=by
 intro binds
 induction binds with
 | nil=>
  intro bs h1 h2 x u e;cases bs with
  | nil=>exact nn e
  | cons=>exact nomatch h1
 | cons p r ih=>
  intro bs h1 h2 x u e;cases bs with
  | nil=>exact nomatch h1
  | cons q bs=>
   obtain⟨hyz,h1⟩:=List.cons.inj h1;cases h2 with
   | cons a b=>
    rcases u0 (y:=q.1) (u:=q.2) (r:=bs) e with⟨rfl,rfl⟩|⟨hne,e⟩
    ·exact⟨p.2,(lV (u:=p.2) _ p.1 r).trans (if_pos (show q.1=p.1 from hyz.symm)),a⟩
    ·refine aj (ih h1 b e) ?_;intro v' e' h';exact⟨v',((lV (u:=p.2) _ p.1 r).trans (if_neg fun z=>hne (z.trans hyz))).trans e',h'⟩
theorem B0:∀{binds:List (Str×Value)} {m:Str→Option Value} {x:Str},(binds.map (·.1)).Nodup→kindOf x=some .local→bindL kindOf binds m x=(binds.lookup x).or (m x):=by
 intro binds
 induction binds with
 | nil=>intro m x _ _;exact rfl
 | cons hd0 r rc=>
  obtain⟨y,v⟩:=hd0;intro m x hn hk;simp only [map_cons,nodup_cons] at hn;unfold bindL;rw [rc hn.2 hk,lookup_cons]
  by_cases hxy:x=y
  ·subst hxy;have hr:r.lookup x=none:=by
    rw [lookup_eq_none_iff];intro p hp;simp only [bne_iff_ne,ne_eq];rintro rfl;exact hn.1 (mem_map.mpr ⟨p,hp,rfl⟩)
   simp [hk,hr]
  ·have:(x==y)=false:=by simpa using hxy
   rw [this]
   split
   ·simp [hxy]
   ·rfl
theorem BZ:∀{binds:List (Str×Value)} {m:Str→Option Value} {x:Str},(binds.map (·.1)).Nodup→kindOf x=some .cell→bindC kindOf binds m x=(binds.lookup x).or (m x):=by
 intro binds
 induction binds with
 | nil=>intro m x _ _;exact rfl
 | cons hd0 r rc=>
  obtain⟨y,v⟩:=hd0;intro m x hn hk;simp only [map_cons,nodup_cons] at hn;unfold bindC;rw [rc hn.2 hk,lookup_cons]
  by_cases hxy:x=y
  ·subst hxy;have hr:r.lookup x=none:=by
    rw [lookup_eq_none_iff];intro p hp;simp only [bne_iff_ne,ne_eq];rintro rfl;exact hn.1 (mem_map.mpr ⟨p,hp,rfl⟩)
   simp [hk,hr]
  ·have:(x==y)=false:=by simpa using hxy
   rw [this]
   split
   ·rfl
   ·simp [hxy]
theorem MX(Fi:bI X)(CO:bL X C k){f:b9}{o:Obj}{fd:FuncData}(F:gJ X f o fd){fuel:Nat}{us:List V}{key:Option V}{σ:aa}{u:V}{σ':aa}(h:uv C fuel f us key σ=some (u,σ'))
 {A:Around} {E:Value→Shared→Prop}  {s:Shared} {vs:List Value} {kw:List (Str×Value)} (Rm:aT (k+1) A) (Am:aq X s) (R:Rel X ρ σ s.heap) (bg:∀a∈ρ.priv,bX s.heap a) (rs:aC X ρ s.heap vs us) (rk:j6 X ρ s.heap kw key) :
 wpAny (model P X.w) A (call (.ref f.addr) vs kw) (aD X ρ s σ' u) E s:=by
 refine aH h ?_;intro bs hb h;refine bZ h ?_;clear h;intro hok h
 ·simp only [fD,and_eq_true,all_eq_true,or_eq_true,decide_eq_true_eq] at hok;refine au hok ?_;clear hok;intro hh;refine au hh ?_;clear hh;intro hh;refine au hh ?_;clear hh;intro hh;refine au hh ?_;clear hh;intro hh;refine au hh ?_;clear hh;intro hh;refine au hh ?_;clear hh;intro hk hco;intro hgen;intro yK;intro hplain;intro hnf;intro hnd;have hk:f.scope.kind=.function:=by simpa using hk
  refine fL h ?_;intro fl az σ₁ e1 h;refine bQ (F.bind hb Am rs rk) ?_;intro binds yr hnames jg;refine wpAny_call (codeAny_call_function (o:=o) (fd:=fd) (body:=f.body) (by have:=Rm.depth;show A.depth<1000;lia) (Am.keep _ _ F.at' F.nt) F.data (by rw [F.scope];simpa using hco) (by rw [F.scope];simpa using hgen) F.body ?_ ?_)
  ·refine iH F.GG ?_;intro c co ws t q1 q2 q3 q4 q5;exact⟨c,co,ws,t,by rw [F.code,q1],Am.keep _ _ q2 q3,q4,by rw [F.name];exact q5⟩
  ·refine yr _ _ _ _ ?_;rw [F.closure,F.scope,F.globals,F.name,F.code,F.builtins];have hnd':(binds.map (·.1)).Nodup:=by rw [hnames];exact hnd
   have yL:∀x∈binds,f.scope.names.lookup x.1=some .local∨(f.scope.names.lookup x.1=some .cell∧((cellsFrom (s.heap.objs.size+1) f.scope.names []).lookup x.1).isSome=true):=by
    intro x hx;have:x.1∈bs.map (·.1):=by rw [←hnames];exact mem_map.mpr ⟨x,hx,rfl⟩
    refine aj (mem_map.mp this) ?_;intro b hb e;rcases yK b hb with h|h
    ·rw [e] at h;exact .inl (by simpa using h)
    ·rw [e] at h;have h':f.scope.names.lookup x.1=some .cell:=by simpa using h
     exact .inr ⟨h',cellsFrom_some _ _ _ (.inl h')⟩
   refine wpAny_newFunctionEnv_cells hk yL fun env he s₁ hin=>?_;have keep:=hin.toInCall.keep;refine fq hin.toInCall.same ?_;rintro h₁ tk rfl;have bx:env.locals=s.heap.objs.size:=by rw [he];rfl
   have yw:env.cells=cellsFrom (s.heap.objs.size+1) f.scope.names []:=by rw [he];rfl
   have kr:env.scope=f.scope:=by rw [he];rfl
   have jL:s.heap.objs.size<h₁.objs.size:=by
    refine bG hin.toInCall.ns ?_;intro oo es ep eo _;rw [bx] at eo;exact lt_size eo
   have G:aM s.heap h₁:=⟨keep,le_of_lt jL⟩;have aQ:aq X ({ s with heap:=h₁,toks:=tk }:Shared):=Am.grown G
   refine⟨aQ.lim,codeAny_func ?_⟩;have hq:∀a∈[s.heap.objs.size],s.heap.objs.size≤a∧a<h₁.objs.size:=by
    intro a ha;simp only [mem_singleton] at ha;subst ha;exact⟨le_refl _,jL⟩
   have gM:∀{cl:Bool},bS cl ρ ⟨ρ.ah,[s.heap.objs.size]++ρ.priv⟩ s.heap h₁:=pg G fun a ha=>(hq a ha).1;have I:bB X s.heap ρ env (aJ f bs) ⟨ρ.ah,[s.heap.objs.size]++ρ.priv⟩ σ ({ s with heap:=h₁,toks:=tk }:Shared):=by
    refine⟨aQ,R.enter G hq Am.size,?_,G.step _,Am.size,by rw [bx];exact le_refl _,fun x c hx hc=>?_⟩
    ·refine { kind:=by rw [kr];exact hk,globals:=by rw [he];rfl,builtins:=by rw [he];rfl,code:=fun Z=>by rw [he];rfl,qual:=by rw [he];rfl,names:=fun x kd hx=>?_,loc:=⟨_,hin.toInCall.ns,fun x u hx hu=>?_⟩,cell:=fun x kd hx hkd=>?_,priv:=by rw [bx];simp,pl:=fun⟨x,hx⟩ y u Z hu=>?_,inj:=fun x y c hx hy=>?_,pv:=fun a ha=>?_ }
     ·left;show env.scope.names.lookup x=some kd;rw [kr];exact hx
     ·have hx':env.kindOf x=some .local :=by show env.scope.names.lookup x=_;rw [kr];exact hx
      refine aj (qN hnames jg hu) ?_;intro v q1 q2;exact⟨v,by rw [B0 hnd' hx',q1];rfl,q2.mono (gM (cl:=true)) (.inl rfl)⟩
     ·have hx':f.scope.names.lookup x=some kd:=hx;have hsome:=cellsFrom_some (x:=x) f.scope.names (s.heap.objs.size+1) [];rcases hkd with rfl|rfl
      ·refine aA (isSome_iff_exists.mp (hsome (.inl hx'))) ?_;intro c hc;rw [←yw] at hc;have hab:=hin.above x c (mem_of_lookup hc);rw [bx] at hab;have hxk:env.kindOf x=some .cell:=by show env.scope.names.lookup x=_;rw [kr];exact hx
       refine⟨c,_,hc,fun hm=>?_,hin.cell x c hc,fun u hu=>?_⟩
       ·rcases aI.mp hm with z|z
        ·exact absurd (R.lt c (aI.mpr (.inl z))) (not_lt.mpr (le_of_lt hab))
        ·rcases mem_append.mp z with z|z
         ·simp only [mem_singleton] at z;rw [z] at hab;exact absurd hab (lt_irrefl _)
         ·exact absurd (R.lt c (aI.mpr (.inr z))) (not_lt.mpr (le_of_lt hab))
       ·refine aj (qN hnames jg hu) ?_;intro v q1 q2;exact⟨v,by rw [BZ hnd' hxk,q1];rfl,q2.mono (gM (cl:=true)) (.inl rfl)⟩
      ·have:=hnf _ (mem_of_lookup hx');simp at this
     ·rcases hplain with h|h
      ·have:=h _ (mem_of_lookup hx);simp at this
      ·exact h _ (mem_of_lookup hu)
     ·exact name_of_addr hin.apart (mem_of_lookup hx) (mem_of_lookup hy)
     ·rcases mem_append.mp ha with h3|h3
      ·simp only [mem_singleton] at h3;subst h3;refine dw hin.toInCall.ns ?_;intro o' es ep e' d' _;rw [bx] at e';exact⟨o',e',.inl ⟨_,_,d'⟩⟩
      ·exact (bg a h3).keep fun o e=>G.keep a o e
    ·have:=hin.above x c (mem_of_lookup hc);rw [bx] at this;exact le_of_lt this
   refine wm (xV Fi CO fuel e1 Rm.deeper I) (fun WQ s' hf=>?_);obtain⟨aO,rf,I',j5,n'⟩:=hf;have hown:∀b,Own env (aJ f bs) b→s.heap.objs.size≤b:=by
    rintro b (rfl|⟨x,hx,hc⟩)
    ·rw [bx];exact le_refl _
    ·exact I.gw x b hx hc
   have S:Step X ρ ⟨aO,ρ.priv⟩ s.heap s'.heap:=(((G.step ρ).fk.trans j5).drop (y:=fun Z=>False) fun b hb=>.inr (hown b hb)).toStep;have hsub:∀a∈ρ.priv,a∈[s.heap.objs.size]++ρ.priv:=fun a ha=>mem_append_right _ ha;have R':Rel X ⟨aO,ρ.priv⟩ σ₁ s'.heap:=I'.rel.leave hsub;have fin:∀{v:Value} {w:V},VR X ⟨aO,[s.heap.objs.size]++ρ.priv⟩ s'.heap v w→some (cD σ.length σ₁ w)=some (u,σ')→aD X ρ s σ' u v s':=by
    intro v w rv hw;have:=Dp S I'.aG R' (rv.mono (pT (cl:=true) _ hsub) (.inl rfl));rw [R.len] at this;simp only [Option.some.injEq] at hw;rw [hw] at this;exact this
   cases rf with
   | next=>exact fin .none h
   | brk=>cases h
   | ret rv=>exact fin rv h
end
section
variable{u:V}{us l:List V}{ns:List Int}{ρ:aB}{h:Heap}{v w:Value}{i:Int}{t:Tok}{m:Nat}
variable{X:Ctx}{C:Calls}{k n:Nat}
noncomputable def intsOf:List V→Option (List Int)
 | []=>some []
 | .int i::r=>(intsOf r).map fun l=>i::l
 | _::_=>none
noncomputable def strsOf:List V→Option (List Str)
 | []=>some []
 | .str i::r=>(strsOf r).map fun l=>i::l
 | _::_=>none
theorem EG(h:intsOf (u::us)=some ns):∃i l,u=.int i∧intsOf us=some l∧i::l=ns:=by
 cases u<;>first|exact nn h|skip
 refine bW h ?_;intro l e h;exact⟨_,l,rfl,e,h⟩
theorem Vo{ns:List Str}(h:strsOf (u::us)=some ns):∃i l,u=.str i∧strsOf us=some l∧i::l=ns:=by
 cases u<;>first|exact nn h|skip
 refine bW h ?_;intro l e h;exact⟨_,l,rfl,e,h⟩
theorem PM:∀{us:List V} {ns:List Int} {vs:List Value},intsOf us=some ns→aC X ρ h vs us→IntsAre vs ns:=by
 intro us
 induction us with
 | nil=>intro ns vs e r;obtain rfl:=Option.some.inj e;obtain rfl:=r.nil_inv;exact .nil
 | cons u us rc=>intro ns vs e r;refine bw (EG e) ?_;rintro i l rfl e1 rfl;refine bw r.inv ?_;rintro _ _ rfl a b;refine aA a.inv ?_;rintro t rfl;exact .cons _ _ (rc e1 b)
theorem Vp:∀{us:List V} {ns:List Str} {vs:List Value},strsOf us=some ns→aC X ρ h vs us→StrsAre vs ns:=by
 intro us
 induction us with
 | nil=>intro ns vs e r;obtain rfl:=Option.some.inj e;obtain rfl:=r.nil_inv;exact .nil
 | cons u us rc=>intro ns vs e r;refine bw (Vo e) ?_;rintro i l rfl e1 rfl;refine bw r.inv ?_;rintro _ _ rfl a b;refine aA a.inv ?_;rintro t rfl;exact .cons _ _ (rc e1 b)
noncomputable def jc(ns:List Int):Bool:=(List.range ns.length).all fun j=>decide (-2^63≤ns.getD j 0∧ns.getD j 0<2^63)&&decide (-2^63≤(ns.take (j+1)).sum∧(ns.take (j+1)).sum<2^63)
section
variable{A:Around}{E:Value→Shared→Prop}{s:Shared}{ρ:aB}{σ:aa}
theorem JT(Am:aq X s)(R:Rel X ρ σ s.heap)(r:VR X ρ s.heap v u)(hl:listOf σ u=some l)(hn:l.length<2^20) :
 wpAny (model P X.w) A (call (.builtin "len") [v]) (aD X ρ s σ (.int l.length)) E s:=by
 refine bw (iL R r hl) ?_;rintro a vs rfl p q;have hlen:vs.size=l.length:=by have:=q.length;simpa using this
 refine call_len_list p.is (by rw [hlen];lia) ?_
 rw [hlen];exact aD.here Am R (aM.refl _) (.int _ _)
theorem JP(Am:aq X s)(R:Rel X ρ σ s.heap)(hz:(baseText "0x" 16 i).length≤sizeLine) :
 wpAny (model P X.w) A (call (.builtin "hex") [.int i t]) (aD X ρ s σ (.str (baseText "0x" 16 i))) E s:=
 PySem.P.hex_of_int (aD.here Am R (aM.refl _) (.str _ _)) hz
theorem JN(Am:aq X s)(R:Rel X ρ σ s.heap)(r:VR X ρ s.heap v u)(hl:listOf σ u=some l)(hn:intsOf l=some ns) :
 wpAny (model P X.w) A (call (.builtin "list.count") [v,.int i t]) (aD X ρ s σ (.int (ns.count i:Nat))) E s:=by
 refine bw (iL R r hl) ?_;rintro a vs rfl p q;exact count_list_ints (vs:=vs.toList) (by simpa using p.is) (PM hn q) (aD.here Am R (aM.refl _) (.int _ _))
theorem JS(Am:aq X s)(R:Rel X ρ σ s.heap){ys:List Str}{x:Str}(r:VR X ρ s.heap v u)(hl:listOf σ u=some l)(hn:strsOf l=some ys)
 (hs:(ys.map (·.length)).sum+ys.length*x.length≤16777216) :
 wpAny (model P X.w) A (call (.builtin "str.join") [.str x t,v]) (aD X ρ s σ (.str (Txt.join x ys))) E s:=by
 refine bw (iL R r hl) ?_;rintro a vs rfl p q;exact join_list p.is (Vp hn q) hs fun t' k=>aD.here Am R (aM.refl _) (.str _ _)
theorem JM(Fi:bI X)(Am:aq X s)(R:Rel X ρ σ s.heap)(r:VR X ρ s.heap v (.loc m))(q:VR X ρ s.heap w u)(hl:σ[m]?=some (.list l))(hp:u.plain=true)(hn:l.length≤sizeLine) :
 wpAny (model P X.w) A (call (.builtin "list.append") [v,w]) (aD X ρ s (σ.set m (.list (l++[u]))) .none) E s:=by
 refine aj r.inv ?_;rintro p rfl hm;refine aj (R.get hm) ?_;intro mo hmo om;obtain rfl:mo=.list l:=Option.some.inj (hmo.symm.trans hl);refine bV om.inv ?_;rintro a vs rfl pl rs hpl;have hlen:vs.size=l.length:=by have:=rs.length;simpa using this
 refine wpAny_list_append_plain pl (fun h' kQ sb=>?_) (by rw [hlen];exact hn)
 have U:=Upd.list hm sb;have S:Step X ρ ρ s.heap h':=U.step;refine⟨ρ.ah,S,U.aG (s':={ s with heap:=h' }) Am Fi R,U.rel (s':={ s with heap:=h' }) Am R (.list kQ ?_ ?_),.none⟩
 ·rw [toList_push];exact (rs.step Am S).append (.cons (q.step Am S) .nil)
 ·rw [eX] at hpl ⊢;intro z hz;rcases mem_append.mp hz with h|h
  ·exact hpl z h
  ·simp only [mem_singleton] at h;subst h;exact hp
theorem JQ(Fi:bI X)(Am:aq X s)(R:Rel X ρ σ s.heap)(r:VR X ρ s.heap v (.loc m))(q:VR X ρ s.heap w u)(hl:σ[m]?=some (.list l))(hp:u.plain=true)(hn:l.length≤sizeLine)
 (h0:0≤i) (h1:i<2^62) :
 wpAny (model P X.w) A (call (.builtin "list.insert") [v,.int i t,w]) (aD X ρ s (σ.set m (.list (l.take (min i.toNat l.length)++u::l.drop (min i.toNat l.length)))) .none) E s:=by
 refine aj r.inv ?_;rintro p rfl hm;refine aj (R.get hm) ?_;intro mo hmo om;obtain rfl:mo=.list l:=Option.some.inj (hmo.symm.trans hl);refine bV om.inv ?_;rintro a vs rfl pl rs hpl;have hlen:vs.size=l.length:=by have:=rs.length;simpa using this
 refine aA pl ?_;clear pl;intro nn e;have hfit:Builtin.List.listFitsIndex i=true:=fitsIndex_of h0 (by lia)
 refine call_meets PySem.F.slot_list_insert ⟨_,e,rfl⟩ PySem.F.entry_list_insert (PySem.F.args_list_insert_3 _ _ _) (PySem.AutoSeq1.list_insert_list_int_val_1 a vs nn i t w (by simp [hfit]) (by rw [hlen];exact hn)) ⟨e,?_⟩
 have hneg:¬i<0:=by lia
 simp only [hneg,if_false];generalize hf:(fun xs:Array Value=>(xs.extract 0 (min i.toNat xs.size)).push w++xs.extract (min i.toNat xs.size))=f;have Ob:f vs=(vs.toList.take (min i.toNat l.length)++w::vs.toList.drop (min i.toNat l.length)).toArray:=by
  rw [←hf];apply toList_inj.mp;simp only [hlen,toList_append,toList_push,Array.toList_extract,List.extract_eq_drop_take,Nat.sub_zero,List.drop_zero,append_assoc,List.singleton_append];congr 2;rw [take_of_length_le];simp [hlen]
 show aD X ρ s _ _ _ { s with heap:=s.heap.update a (mapSeq f) }
 have sb:SameBut a s.heap (s.heap.update a (mapSeq f)):=SameBut.update ..;obtain⟨n',hm'⟩:∃n',mapSeq f { cls:=.type "list",dict:=none,data:=.seq vs nn,slots:=#[] }={ cls:=.type "list",dict:=none,data:=.seq (f vs) n',slots:=#[] }:=⟨_,rfl⟩;have kQ:PL (s.heap.update a (mapSeq f)) a (f vs):=⟨n',by rw [get?_update_self _ e (by rw [hm'];rfl),hm']⟩
 have U:=Upd.list hm sb;have S:Step X ρ ρ s.heap (s.heap.update a (mapSeq f)):=U.step;refine⟨ρ.ah,S,U.aG (s':={ s with heap:=s.heap.update a (mapSeq f) }) Am Fi R,U.rel (s':={ s with heap:=s.heap.update a (mapSeq f) }) Am R (.list kQ ?_ ?_),.none⟩
 ·rw [Ob];have rs':=rs.step Am S;simpa using (rs'.take (min i.toNat l.length)).append (.cons (q.step Am S) (rs'.drop (min i.toNat l.length)))
 ·rw [eX] at hpl ⊢;intro z hz;rcases mem_append.mp hz with h|h
  ·exact hpl z (List.mem_of_mem_take h)
  ·rcases mem_cons.mp h with rfl|h
   ·exact hp
   ·exact hpl z (List.mem_of_mem_drop h)
theorem JU(Am:aq X s)(R:Rel X ρ σ s.heap)(r:VR X ρ s.heap v u)(hl:listOf σ u=some l)(hp:V.bD l=true)(hn:l.length≤sizeLine) :
 wpAny (model P X.w) A (call (.type "list") [v]) (aD X ρ s (σ++[.list l]) (.loc σ.length)) E s:=by
 refine bw (iL R r hl) ?_;rintro a vs rfl hh;refine aA hh ?_;clear hh;intro nn e;intro q;have hlen:vs.size=l.length:=by have:=q.length;simpa using this
 refine call_list_seq a (T:="list") (.inl rfl) e rfl rfl (fun h' c' hk hnew=>?_) (by rw [hlen];exact hn)
 have hlt:s.heap.objs.size<h'.objs.size:=lt_size hnew;have G:aM s.heap h':=⟨hk,le_of_lt hlt⟩;have M:bS true ρ ⟨ρ.ah++[(s.heap.objs.size,s.heap.objs.size)],ρ.priv⟩ s.heap h':=vh (p:=(s.heap.objs.size,s.heap.objs.size)) G (le_refl _) (le_refl _);refine⟨ρ.ah++[(s.heap.objs.size,s.heap.objs.size)],G.Aw (p:=(s.heap.objs.size,s.heap.objs.size)) (le_refl _) (le_refl _),Am.grown G,R.more G Am.size ⟨le_refl _,hlt⟩ ⟨le_refl _,hlt⟩ (.list ⟨c',hnew⟩ (q.mono M (.inl rfl)) hp),?_⟩;exact .loc (p:=(s.heap.objs.size,s.heap.objs.size)) (by rw [←R.len];simp)
end
end
section
variable{X:Ctx}{C:Calls}{k n:Nat}
theorem PJ{ρ:aB}{h:Heap}:∀{us:List V} {ns:List Int} {vs:List Value},intsOf us=some ns→aC X ρ h vs us→∃xs:List (Int×Tok),vs=xs.map (fun p=>.int p.1 p.2)∧xs.map (·.1)=ns:=by
 intro us
 induction us with
 | nil=>intro ns vs e r;obtain rfl:=Option.some.inj e;obtain rfl:=r.nil_inv;exact⟨[],rfl,rfl⟩
 | cons u us rc=>intro ns vs e r;refine bw (EG e) ?_;rintro i l rfl e1 rfl;refine bw r.inv ?_;rintro _ _ rfl a b;refine aA a.inv ?_;rintro t rfl;refine aj (rc e1 b) ?_;rintro xs rfl rfl;exact⟨(i,t)::xs,rfl,rfl⟩
theorem numAt_eq(xs:List (Int×Tok))(j:Nat):numAt xs.toArray j=(xs.map (·.1)).getD j 0:=by
 unfold numAt;simp [List.getD]
theorem preSum_eq(xs:List (Int×Tok)):∀j,j≤xs.length→preSum (numAt xs.toArray) j=((xs.map (·.1)).take j).sum:=by
 intro j
 induction j with
 | zero=>intro _;simp [preSum]
 | succ j rc=>
  intro h;show preSum (numAt xs.toArray) j+numAt xs.toArray j=_;rw [rc (Nat.le_of_succ_le h),numAt_eq,List.take_succ];have hj:j<(xs.map (·.1)).length:=by rw [length_map];exact h
  rw [getElem?_eq_getElem hj,getD_eq_getElem?_getD,getElem?_eq_getElem hj];simp
section
variable{A:Around}{E:Value→Shared→Prop}{s:Shared}{ρ:aB}{σ:aa}
theorem J3(hh:A.handled=none)(Am:aq X s)(R:Rel X ρ σ s.heap){v:Value}{u:V}{l:List V}{ns:List Int}(r:VR X ρ s.heap v u)(hl:listOf σ u=some l)(hn:intsOf l=some ns)(hf:jc ns=true) :
 wpAny (model P X.w) A (call (.builtin "sum") [v]) (aD X ρ s σ (.int ns.sum)) E s:=by
 refine bw (iL R r hl) ?_;rintro a vs rfl p q;refine aj (PJ hn q) ?_;intro xs h1 h2;have hvs:vs=intItems xs.toArray:=by
  apply toList_inj.mp;rw [h1];simp [intItems]
 subst h2;refine mR (le_refl _) (wpAny_mono (sum_intList (E:=fun Z Z=>False) (Q:=fun v s'=>v=.int ((xs.map (·.1)).sum) (match v with | .int _ t=>t|_=>0)∧∃h' tk,s'={ s with heap:=h',toks:=tk }∧∀b o,s.heap.get? b=some o→h'.get? b=some o) (xs:=xs.toArray) hh (hvs▸p.is) (fun j hj=>?_) fun h' tk t' hk=>⟨?_,h',tk,rfl,hk⟩) ?_ fun Z Z e=>e.elim)
 ·have hj':j<(xs.map (·.1)).length:=by simpa using hj
  simp only [jc,all_eq_true,mem_range,and_eq_true,decide_eq_true_eq] at hf;have:=hf j hj';rw [numAt_eq,preSum_eq xs (j+1) (by rw [length_map] at hj';exact hj')]
  exact this
 ·have:preSum (numAt xs.toArray) xs.toArray.size=(xs.map (·.1)).sum:=by
   rw [show xs.toArray.size=xs.length by simp,preSum_eq xs _ (le_refl _)]
   congr 1;rw [take_of_length_le];simp
  rw [this]
 ·intro v s' hh;obtain⟨hv,h',tk,rfl,hk⟩:=hh;intro hs;rw [hv];exact aD.here Am R ⟨hk,hs⟩ (.int _ _)
theorem J2(Am:aq X s)(R:Rel X ρ σ s.heap){x y:Str}{t u:Tok}(hy:(y.length==0)=false)(hsz:x.length+2≤sizeLine) :
 wpAny (model P X.w) A (call (.builtin "str.split") [.str x t,.str y u]) (aD X ρ s σ (.lst ((Txt.split x y).map V.str))) E s:=by
 have fin:∀(l:List (Str×Tok)) (tk:Nat),l.map (·.1)=Txt.split x y→aD X ρ s σ (.lst ((Txt.split x y).map V.str)) (.ref s.heap.objs.size) { s with toks:=tk,heap:=s.heap.push { cls:=.type "list",data:=.seq (strValues l).toArray } }:=by
  intro l tk hl;have G:=aM.push s.heap { cls:=.type "list",data:=.seq (strValues l).toArray };refine aD.here Am R G (.lst ⟨0,get?_push_size _ rfl⟩ (fun hm=>lt_irrefl _ (R.lt _ hm)) ?_);rw [←hl];clear hl G;have:∀(h:Heap) (l:List (Str×Tok)),aC X ρ h (strValues l) ((l.map (·.1)).map V.str):=by
   intro h l
   induction l with
   | nil=>exact .nil
   | cons p l ih=>exact .cons (.str _ _) ih
  simpa using this _ l
 have hn:(Builtin.Str.partsBetween x (Builtin.Str.occurrences x y 0 x.length (x.length+1)) y.length).length≤sizeLine:=by
  have e1:=StrLaws.occ_length_le x y 0 x.length (x.length+1);rw [length_partsBetween];lia
 cases h1:(decide (x.length<y.length)||decide (Builtin.Str.strKind x<Builtin.Str.strKind y))
 ·cases hf:(Builtin.Str.occurrences x y 0 x.length (x.length+1)).isEmpty
  ·refine call_meets F.slot_str_split (typeIs_str _ _ _) F.entry_str_split (F.args_str_split_2 _ _) (meets_str_split_sep x y t u h1 hy hf (by lia) hn) ?_
   show wants _ E _ { s with toks:=_,heap:=s.heap.push { cls:=.type "list",data:=.seq (strsFrom s.toks (Builtin.Str.partsBetween x (Builtin.Str.occurrences x y 0 x.length (x.length+1)) y.length)).toArray } }
   rw [strsFrom_eq];exact fin (numbered s.toks _) _ ((numbered_texts _ _).trans ((if_neg (ne_true_of_eq_false h1)).trans (if_neg (ne_true_of_eq_false hf))).symm)
  ·exact call_meets F.slot_str_split (typeIs_str _ _ _) F.entry_str_split (F.args_str_split_2 _ _) (meets_str_split_not_found x y t u h1 hy hf)
    (fin [(x,t)] s.toks ((if_neg (ne_true_of_eq_false h1)).trans (if_pos hf)).symm)
 ·exact call_meets F.slot_str_split (typeIs_str _ _ _) F.entry_str_split (F.args_str_split_2 _ _) (meets_str_split_cannot_occur x y t u h1)
   (fin [(x,t)] s.toks (if_pos h1).symm)
theorem JR(Am:aq X s)(R:Rel X ρ σ s.heap){v:Value}{l:List V}(r:VR X ρ s.heap v (.lst l))(hp:V.bD l=true) :
 wpAny (model P X.w) A (call (.builtin "iter") [v]) (aD X ρ s (σ++[.iter l]) (.loc σ.length)) E s:=by
 refine bV r.inv ?_;rintro a vs rfl pl hnf rs;refine aA pl ?_;clear pl;intro nn e;refine call_function_entry (by decide+kernel) (by decide+kernel) kdk_entry_iter (kdk_args_iter _) ?_
 unfold Builtin.«iter»;refine wpAny_bind (m:=someArgs "iter" 1 2 _) (wpAny_of_eq (a:=[Value.ref a]) (by first|rfl|kernel_rfl!) ?_)
 show wpAny _ _ (pyIter (.ref a)>>=_) _ _ _;refine wpAny_bind (wpAny_pyIter_list (PL.is ⟨nn,e⟩) ?_);have G:=aM.push s.heap { cls:=.type "list_iterator",data:=.fields #[.ref a,.int 0 0] };have M:bS true ρ ⟨ρ.ah++[(s.heap.objs.size,s.heap.objs.size)],ρ.priv⟩ s.heap (s.heap.push { cls:=.type "list_iterator",data:=.fields #[.ref a,.int 0 0] }):=vh (p:=(s.heap.objs.size,s.heap.objs.size)) G (le_refl _) (le_refl _);exact wpAny_pure ⟨_,rfl,aD.made (tk:=s.toks) Am R (.iter (i:=0) ⟨_,get?_push_size _ rfl,rfl,rfl⟩ (M.list ⟨nn,e⟩ hnf).1 (M.list ⟨nn,e⟩ hnf).2 (by simpa using rs.mono M (.inl rfl)) hp)⟩
end
end
section
variable{env:Env}{ρ:aB}{pos:Pos}
variable{X:Ctx}{C:Calls}{k n:Nat}
noncomputable def Keeps(X:Ctx)(h:Heap):Prop:=∀a o,X.hB.get? a=some o→¬X.tab a→h.get? a=some o
structure wI(X:Ctx)(code:Value)(qual:Str)(c T:Addr)(mg:Str→Option Value):Prop where
 eq:code=.ref c
 mem:(T,qual++"<lambda>")∈X.tabs
 uniq:∀q,(T,q)∈X.tabs→q=qual++"<lambda>"
 ne:mainGlobals≠T
 base:∀h,Keeps X h→CodeHd h c T∧h.Ns mainGlobals mg∧h.BuiltinsAt mg T
noncomputable def freeNames(sc:Scope):List Str:=((sc.names.filter (fun p=>p.2==.free)).map (·.1)).reverse
noncomputable def xG(me:ao):List Str→Option (List V)
 | []=>some []
 | x::r=>(me.vars x).bind fun u=>(xG me r).map fun us=>u::us
noncomputable def zB(me:ao)(ps:Arguments)(b:Expr)(sc:Scope):Option V:=
 if ((freeNames sc).all fun x=>me.names.lookup x==some .cell||me.names.lookup x==some .free)&&ps.defaults.isEmpty&&ps.kw_defaults.isEmpty then
  (xG me (freeNames sc)).map fun us=>.aE ⟨ps,b,sc,freeNames sc,me.qual++"<lambda>"⟩ us else none
theorem K6:∀{names:List (Str×NameKind)} {acc:List (Str×Addr)},(∀p∈names,p.2=.free→∃c,env.cells.lookup p.1=some c)→
 (forIn names acc (fun (p:Str×NameKind) cs=>if p.2==.free then (do let a ←cellOf env p.1;pure (.yield ((p.1,a)::cs))) else pure (.yield cs)):Sem (List (Str×Addr))) =
  pure ((((names.filter (fun p=>p.2==.free)).map (·.1)).reverse.map fun x=>(x,(env.cells.lookup x).getD 0))++acc):=by
 intro names
 induction names with
 | nil=>intro acc _;exact rfl
 | cons p r rc=>
  intro acc h;rw [forIn_cons];have hr:∀q∈r,q.2=.free→∃c,env.cells.lookup q.1=some c:=fun q hq=>h q (mem_cons_of_mem _ hq)
  by_cases hf:p.2=.free
  ·refine aA (h p mem_cons_self hf) ?_;intro c hc;have:cellOf env p.1=pure c:=by unfold cellOf;rw [hc]
   simp only [hf,beq_self_eq_true,if_true,this,pure_bind];rw [rc hr];simp [hf,hc]
  ·have:(p.2==NameKind.free)=false:=by simpa using hf
   simp only [this,false_eq_true,if_false,pure_bind];rw [rc hr];simp [this]
theorem Cn{sc:Scope}(h:∀x∈freeNames sc,∃c,env.cells.lookup x=some c):closureFor sc env=pure ((freeNames sc).map fun x=>(x,(env.cells.lookup x).getD 0)):=by
 unfold closureFor;show ((forIn sc.names [] (fun (p:Str×NameKind) cs=>if p.2==.free then (do let a ←cellOf env p.1;pure (.yield ((p.1,a)::cs))) else pure (.yield cs)):Sem (List (Str×Addr)))>>=fun cs=>pure cs)=_
 rw [K6 fun p hp hf=>h p.1 (by unfold freeNames;simp only [List.mem_reverse,mem_map,mem_filter];exact⟨p,⟨hp,by simp [hf]⟩,rfl⟩),pure_bind,append_nil]
 rfl
theorem KU{me:ao}{h:Heap}(H:b5 X ρ env me h):∀{xs:List Str} {us:List V},(∀x∈xs,me.names.lookup x=some .cell∨me.names.lookup x=some .free)→xG me xs=some us→
 ∃(vs:List Value) (os:List (Addr×Obj)),vs.length=us.length∧us.length=xs.length∧aC X ρ h vs us∧(∀p∈os,pN p.2∧h.get? p.1=some p.2∧p.1∉fp ρ)∧(∀x∈xs,∃c,env.cells.lookup x=some c)∧
  (∀p∈(xs.map fun x=>(env.cells.lookup x).getD 0).zip vs,∃q,(p.1,q)∈os∧q.data=.cell (some p.2)):=by
 intro xs
 induction xs with
 | nil=>intro us _ e;obtain rfl:=Option.some.inj e;exact⟨[],[],rfl,rfl,.nil,by simp,by simp,by simp⟩
 | cons x xs rc=>
  intro us hk e;refine aH e ?_;intro u hu e;refine bW e ?_;rintro us' e' rfl;refine CG (rc (fun y hy=>hk y (mem_cons_of_mem _ hy)) e') ?_;intro vs os h1 h2 h3 h4 h5 h6;have hkd:∃kd,me.names.lookup x=some kd∧(kd=.cell∨kd=.free):=by
   rcases hk x mem_cons_self with h|h
   ·exact⟨_,h,.inl rfl⟩
   ·exact⟨_,h,.inr rfl⟩
  refine aj hkd ?_;clear hkd;intro kd q1 q2;refine bV (H.cell x kd q1 q2) ?_;intro c ov e1 e2 hh;refine aj hh ?_;clear hh;intro o eo d;intro e4;refine aj (e4 u hu) ?_;rintro v rfl rv;refine⟨v::vs,(c,o)::os,by simp [h1],by simp [h2],.cons rv h3,fun p hp=>?_,fun y hy=>?_,fun p hp=>?_⟩
  ·rcases mem_cons.mp hp with rfl|hp
   ·exact⟨.inr (.inl ⟨_,d⟩),eo,e2⟩
   ·exact h4 p hp
  ·rcases mem_cons.mp hy with rfl|hy
   ·exact⟨c,e1⟩
   ·exact h5 y hy
  ·simp only [map_cons,List.zip_cons_cons,e1,Option.getD_some] at hp;rcases mem_cons.mp hp with rfl|hp
   ·exact⟨o,mem_cons_self,d⟩
   ·refine aj (h6 p hp) ?_;intro q hq1 hq2;exact⟨q,mem_cons_of_mem _ hq1,hq2⟩
theorem Iz{a b:Int}{c cv:Value}:∀{l:List Value},TriplesOk l→codeAmong pos (l++[rawInt a,rawInt b,c])=some cv→codeAmong pos l=some cv∨cv=c:=by
 intro l h
 fun_induction TriplesOk l with
 | case1=>intro e;simp only [List.nil_append,rawInt,codeAmong] at e;exact bJ e fun Z h=>.inr h.symm
 | case2 a' t b' u x rest ih=>
  intro e;simp only [List.cons_append,codeAmong] at e ⊢;rcases cJ e with⟨hc,e⟩|⟨hc,e⟩
  ·rw [if_pos hc];exact .inl e
  ·rw [if_neg hc];exact ih h e
 | case3 l h1 h2=>exact h.elim
theorem Hx{s s':Shared}{T c':Addr}{q:Str}{ps:Array Value}(Am:aq X s)(hm:(T,q)∈X.tabs)(hu:∀q',(T,q')∈X.tabs→q'=q)(hT:s.heap.get? T=some (tabObj ps))(ht:TriplesOk ps.toList)
 (hx:∀b o,b≠T→s.heap.get? b=some o→s'.heap.get? b=some o) (hge:s.heap.objs.size≤c') (hc:s'.heap.CodeRec (.ref c') q) (rA:s'.heap.get? T=some (tabObj (ps++#[rawInt pos.line,rawInt pos.col,.ref c'])))
 (hsz:s.heap.objs.size≤s'.heap.objs.size) (ho:s'.os=s.os) (hg:s'.gens=s.gens):aq X s'∧Step X ρ ρ s.heap s'.heap:=by
 have vX:X.tab T:=mem_map.mpr ⟨_,hm,rfl⟩;have Lc:∀a o,s.heap.get? a=some o→kF o→a≠T:=by
  rintro a o e hcd rfl;obtain rfl:=Option.some.inj (e.symm.trans hT);exact Hw ht hcd
 refine⟨⟨fun a o e t=>hx a o (fun z=>t (z▸vX)) (Am.keep a o e t),fun T' q' hm'=>?_,ho.trans Am.os,hg▸Am.gens,le_trans Am.size hsz,?_⟩,⟨fun a o e t Z=>hx a o (fun z=>t (z▸vX)) e,prefix_refl _,fun Z q n=>absurd q n,fun Z q n=>absurd q n,hsz⟩⟩
 ·refine bQ ((Am.tab T' q' hm').ok) ?_;intro ps' a b cc;have EU:∀{c:Addr} {co:Obj} {ws:Array Value} {t:Tok},s.heap.get? c=some co→co.data=.fields ws→ws[1]?=some (.str q' t)→s'.heap.get? c=some co:=fun e h1 h2=>hx _ _ (Lc _ _ e ⟨_,_,_,h1,h2⟩) e
  by_cases hTT:T'=T
  ·subst hTT;obtain rfl:=hu q' hm';have hps:ps'=ps:=by
    have:=a.symm.trans hT;simpa using this
   subst hps;refine⟨_,rA,?_,fun pos' cv e=>?_⟩
   ·rw [toList_append];exact TriplesOk_snoc _ _ _ _ b
   ·rw [toList_append] at e;rcases Iz b e with e|rfl
    ·refine iH (cc pos' cv e) ?_;intro c1 co ws t e1 e2 e4 e5 e6;exact⟨c1,co,ws,t,e1,EU e2 e4 e5,e4,e5,e6⟩
    ·refine tX hc ?_;clear hc;intro c1 co ws t e1 e2 e3 e4;cases e1;exact⟨_,co,ws,t,rfl,e2,e3,e4,le_trans Am.size hge⟩
  ·refine⟨ps',hx _ _ hTT a,b,fun pos' cv e=>?_⟩;refine iH (cc pos' cv e) ?_;intro c1 co ws t e1 e2 e4 e5 e6;exact⟨c1,co,ws,t,e1,EU e2 e4 e5,e4,e5,e6⟩
 ·refine aj Am.lim ?_;intro mc hh;refine dw hh ?_;clear hh;intro o es ep e d r;intro h;refine⟨mc,⟨o,es,ep,hx _ _ (fun z=>?_) e,d,r⟩,h⟩;rw [z] at e;obtain rfl:=Option.some.inj (e.symm.trans hT);cases d
end
section
variable{X:Ctx}{C:Calls}{k n:Nat}
theorem aq.keeps{s:Shared}(Am:aq X s):Keeps X s.heap:=fun a o e t=>Am.keep a o e t
theorem QF{me:ao}{ps:Arguments}{b:Expr}{sc:Scope}{pos:Pos}{u:V}{c T:Addr}{mg:Str→Option Value}(LC:wI X me.code me.qual c T mg)(h:zB me ps b sc=some u)
 {env:Env} {A:Around} {E:Value→Shared→Prop} {ρ:aB} {σ:aa} {s:Shared} (Am:aq X s) (R:Rel X ρ σ s.heap) (H:b5 X ρ env me s.heap) :
 wpAny (model P X.w) A (eval (.Lambda ps b sc pos) env) (aD X ρ s σ u) E s:=by
 unfold zB at h;refine bZ h ?_;clear h;intro hc h
 ·simp only [and_eq_true,all_eq_true,or_eq_true,beq_iff_eq] at hc;refine au hc ?_;clear hc;intro hh;refine au hh ?_;clear hh;intro hk hd;intro hkd;simp only [map_eq_some_iff] at h;refine aj h ?_;clear h;rintro us hcap rfl;refine CG (KU H hk hcap) ?_;intro vs os h1 h2 h3 h4 h5 h6;have hcl:=Cn (sc:=sc) (env:=env) h5;refine bO (LC.base _ Am.keeps) ?_;intro CH NG BA;refine bQ ((Am.tab T _ LC.mem).ok) ?_;intro tb hT htr hcode;have hdef:defaultsOf ps env=([],[]):=by
   obtain⟨a1,a2,a3,a4,a5,a6,a7⟩:=ps;simp only [isEmpty_iff] at hd hkd;subst hd hkd;rfl
  have WJ:(freeNames sc).map (fun x=>(x,(env.cells.lookup x).getD 0))=(freeNames sc).zip ((freeNames sc).map fun x=>(env.cells.lookup x).getD 0):=by
   induction freeNames sc with
   | nil=>rfl
   | cons x r ih=>simp [ih]
  have fin:∀(cc:Addr) (co:Obj) (ws:Array Value) (tq:Tok) (ctv:Value) (h':Heap) (tk:Nat),co.data=.fields ws→ws[1]?=some (.str (me.qual++"<lambda>") tq)→h'.get? cc=some co→nB≤cc→cc∉fp ρ→
   (∀a o,a∈lp ρ.ah→s.heap.get? a=some o→h'.get? a=some o)→Step X ρ ρ s.heap h'→aq X ({ s with heap:=h',toks:=tk }:Shared)→
   aD X ρ s σ (.aE ⟨ps,b,sc,freeNames sc,me.qual++"<lambda>"⟩ us) (.ref h'.objs.size) { s with heap:=h'.push (kla_obj "<lambda>" (env.qual++"<lambda>") ps b sc ((freeNames sc).map fun x=>(x,(env.cells.lookup x).getD 0)) ((mg "__name__").getD .none) cc ctv),toks:=tk }:=by
   intro cc co ws tq ctv h' tk d1 d2 d3 d4 d5 hown S dc;generalize hfo:kla_obj "<lambda>" (env.qual++"<lambda>") ps b sc ((freeNames sc).map fun x=>(x,(env.cells.lookup x).getD 0)) ((mg "__name__").getD .none) cc ctv=fo;have G:=aM.push h' fo;have R':Rel X ρ σ h':=R.mono (bS.weak (S.mono Am)) (fun a ha=>by
    refine aA (R.own ha) ?_;intro o e;rw [e,hown a o ha e]) S.size
   have Ig:=R'.grown G;refine⟨ρ.ah,S.trans (G.step ρ),dc.grown (s':={ s with heap:=h'.push fo,toks:=tk }) G,Ig,?_⟩
   have hfn:h'.objs.size∉fp ρ:=fun hm=>lt_irrefl _ (R'.lt _ hm);refine .aE (vs:=vs) (os:=(h'.objs.size,fo)::(cc,co)::os) ⟨fun p hp=>?_,.mk fo (kla_fn "<lambda>" (env.qual++"<lambda>") ps b sc ((freeNames sc).map fun x=>(x,(env.cells.lookup x).getD 0)) ((mg "__name__").getD .none) (.ref cc) ctv) cc co ((freeNames sc).map fun x=>(env.cells.lookup x).getD 0) mem_cons_self (by rw [←hfo]) rfl rfl rfl (by rw [←H.qual]) rfl rfl rfl rfl rfl (mem_cons_of_mem _ mem_cons_self) ⟨ws,tq,d1,d2⟩ WJ (by simp) (by rw [h1,h2]) fun p hp=>?_⟩ (fun p hp=>?_) ?_
   ·rcases mem_cons.mp hp with rfl|hp
    ·exact .inl ⟨_,by rw [←hfo]⟩
    ·rcases mem_cons.mp hp with rfl|hp
     ·exact .inr (.inr ⟨_,_,_,d1,d2⟩)
     ·exact (h4 p hp).1
   ·refine aj (h6 p hp) ?_;intro q q1 q2;exact⟨q,mem_cons_of_mem _ (mem_cons_of_mem _ q1),q2⟩
   ·rcases mem_cons.mp hp with rfl|hp
    ·exact⟨get?_push_size _ (by rw [←hfo];rfl),hfn⟩
    ·rcases mem_cons.mp hp with rfl|hp
     ·exact⟨G.keep _ _ d3,d5⟩
     ·refine bO (h4 p hp) ?_;intro q1 q2 q3;refine⟨G.keep _ _ (S.keep _ _ q2 (Am.kK q2 (.inr ⟨rfl,q1⟩)) fun z=>q3 (aI.mpr (.inl z))),q3⟩
   ·exact (h3.step Am S).step dc (G.step ρ)
  have QD:∀a∈lp ρ.ah,a≠T:=by
   rintro a ha rfl;refine aj (dj.mp ha) ?_;intro p hp hpa;obtain⟨i,hi,rfl⟩:=getElem_of_mem hp;refine aj (R.get (getElem?_eq_getElem hi)) ?_;intro m _ om;exact (om.kinds hpa hT).1 rfl
  refine kla_eval hdef ?_;cases yx:codeAmong pos tb.toList with
  | none=>
   refine kla_makeFunction hcl H.globals NG ((H.code (by rw [LC.eq];simp)).trans LC.eq) CH hT htr yx LC.ne BA fun c' ctv h' tk hx hge hlt hrec rA=>?_
   have hsz:s.heap.objs.size≤h'.objs.size:=le_of_lt (lt_of_le_of_lt hge hlt);rw [H.qual] at hrec;refine au (Hx (s':={ s with heap:=h',toks:=tk }) (ρ:=ρ) Am LC.mem LC.uniq hT htr hx hge hrec rA hsz rfl rfl) ?_;intro dc S
   refine tX hrec ?_;clear hrec;intro c1 co ws tq e1 e2 e3 e4;cases e1;exact fin _ co ws tq ctv h' tk e3 e4 e2 (le_trans Am.size hge) (fun hm=>absurd (R.lt _ hm) (not_lt.mpr hge)) (fun a o ha e=>hx a o (QD a ha) e) S dc
  | some cv=>
   refine iH (hcode pos cv yx) ?_;rintro c1 co ws tq rfl e2 e4 e5 e6;refine kla_makeFunctionHit hcl H.globals NG ((H.code (by rw [LC.eq];simp)).trans LC.eq) CH hT htr yx BA fun ctv h' tk hk hsz=>?_
   have G:aM s.heap h':=⟨hk,hsz⟩;refine fin c1 co ws tq ctv h' tk e4 e5 (hk _ _ e2) e6 (fun hm=>?_) (fun a o Z e=>hk a o e) (G.step ρ) (Am.grown G);rcases aI.mp hm with z|z
   ·refine aj (dj.mp z) ?_;intro p hp hpa;obtain⟨i,hi,rfl⟩:=getElem_of_mem hp;refine aj (R.get (getElem?_eq_getElem hi)) ?_;intro m _ om;exact (om.kinds hpa e2).2 ⟨_,_,_,e4,e5⟩
   ·refine aj (H.pv _ z) ?_;intro o eo d;obtain rfl:=Option.some.inj (eo.symm.trans e2);rcases d with⟨es,ep,d⟩|⟨xs,nn,d⟩<;>(rw [e4] at d;cases d)
end
section
variable{ps:Arguments}{x:Str}{S:fU}{u:V}{caps:List V}{xs:List Str}{ρ:aB}
variable{X:Ctx}{C:Calls}{k n:Nat}
noncomputable def kL(ps:Arguments):Option Str:=if ps.posonlyargs.isEmpty&&ps.vararg.isNone&&ps.kwonlyargs.isEmpty&&ps.kw_defaults.isEmpty&&ps.kwarg.isNone&&ps.defaults.isEmpty then (one? ps.args).bind fun a=>if (["pair","one","self"]:List Str).contains a.arg then some a.arg else none else none
theorem Gb(h:kL ps=some x):∃a,ps=⟨[],[a],none,[],[],none,[]⟩∧a.arg=x∧(["pair","one","self"]:List Str).contains x=true:=by
 refine cps fun Z kk=>?_;refine bZ h ?_;intro hc h;refine aH h ?_;intro a e h;refine bZ h ?_;intro hn h;refine kk ?_;clear kk;cases h;obtain⟨p1,p2,p3,p4,p5,p6,p7⟩:=ps;simp only [and_eq_true,isEmpty_iff,isNone_iff_eq_none] at hc;refine au hc ?_;clear hc;intro hh;refine au hh ?_;clear hh;intro hh;refine au hh ?_;clear hh;intro hh;refine au hh ?_;clear hh;intro hh;refine au hh ?_;clear hh;rintro rfl rfl;rintro rfl;rintro rfl;rintro rfl;rintro rfl;obtain rfl:=jv e;exact⟨a,rfl,rfl,hn⟩
theorem Ga(h:kL ps=some x):∃ar,(ps.posonlyargs++ps.args).head?=some ar∧ar.arg=x:=by
 refine bQ (Gb h) ?_;rintro a rfl e _;exact⟨a,rfl,e⟩
noncomputable def xK(S:fU)(x:Str)(u:V)(caps:List V):ao:=
 {names:=S.scope.names,vals:=(x,u)::S.caps.zip caps,code:=.none,qual:=S.qual++".<locals>." }
noncomputable def Ck(S:fU)(x:Str):Bool:=
 S.scope.kind==.function&&!S.scope.isCoroutine&&!S.scope.isGenerator&&decide (S.caps.length≤1)&&(S.caps.all fun y=>S.scope.names.lookup y==some .free)&&(S.scope.names.lookup x==some .local)&&
 (S.scope.names.all fun p=>S.scope.names.lookup p.1==some p.2&&(p.2==.local||p.2==.globalImplicit||(p.2==.free&&S.caps.contains p.1)))
noncomputable def xJ(C:Calls)(fuel:Nat)(S:fU)(caps us:List V)(σ:aa):Option (V×aa):=(kL S.params).bind fun x=>(one? us).bind fun u=>
 if Ck S x then (ak C fuel (xK S x u caps) S.body σ).map fun (v,σ')=>cD σ.length σ' v else none
theorem B3{fd:FuncData}{v:Value}(hp:fd.params=ps)(hx:kL ps=some x)(h1:fd.defaults=.none)(h2:fd.kwdefaults=.none):bindArgs fd ⟨[v],[]⟩=pure [(x,v)]:=by
 refine bQ (Gb hx) ?_;intro hh;obtain⟨x,an,p⟩:=hh;rintro rfl rfl hn;cases fd;cases hp;cases h1;cases h2;rcases mem_cons.mp (List.contains_iff_mem.mp hn) with rfl|hn
 ·rfl
 rcases mem_cons.mp hn with rfl|hn
 ·rfl
 obtain rfl:=mem_singleton.mp hn;rfl
theorem Cj{y:Str}:(xK S x u caps).vars y=if y=x then some u else (S.caps.zip caps).lookup y:=by
 show ((x,u)::S.caps.zip caps).lookup y=_;rw [lookup_cons]
 by_cases h:y=x
 ·subst h;simp
 ·have:(y==x)=false:=by simpa using h
  rw [this,if_neg h]
theorem KS{cs:List Addr}{qV:List Value}{os:List (Addr×Obj)}{h:Heap}(hlen:xs.length≤1)(l1:cs.length=xs.length)(l2:qV.length=xs.length)(RC:aC X ρ h qV caps)
 (xQ:∀p∈cs.zip qV,∃q,(p.1,q)∈os∧q.data=.cell (some p.2)):∀y∈xs,∃cc vv uu,(xs.zip cs).lookup y=some cc∧(xs.zip caps).lookup y=some uu∧(∃q,(cc,q)∈os∧q.data=.cell (some vv))∧VR X ρ h vv uu:=by
 intro y hy;cases xs with
 | nil=>cases hy
 | cons x xs=>cases xs with
  | cons=>exact absurd hlen (by simp)
  | nil=>
   obtain rfl:y=x:=by simpa using hy
   cases cs with
   | nil=>cases l1
   | cons cc cs=>cases RC with
    | nil=>cases l2
    | cons ra rb=>exact⟨cc,_,_,by simp,by simp,xQ (cc,_) (by simp),ra⟩
theorem SW(h:xs.length≤1){a b:Str}(ha:a∈xs)(hb:b∈xs):a=b:=by
 cases xs with
 | nil=>cases ha
 | cons x xs=>cases xs with
  | cons=>exact absurd h (by simp)
  | nil=>rw [mem_singleton.mp ha,mem_singleton.mp hb]
theorem K3(Fi:bI X)(CO:bL X C k){us:List V}{fuel:Nat}{σ σ':aa}(h:xJ C fuel S caps us σ=some (u,σ')){A:Around}{E:Value→Shared→Prop}{s:Shared}{f:Value}{vs:List Value}
 (Rm:aT (k+1) A) (Am:aq X s) (R:Rel X ρ σ s.heap) (bg:∀a∈ρ.priv,bX s.heap a) (rf:VR X ρ s.heap f (.aE S caps)) (rs:aC X ρ s.heap vs us) :
 wpAny (model P X.w) A (call f vs []) (aD X ρ s σ' u) E s:=by
 refine aH h ?_;clear h;intro x hx h;refine aH h ?_;clear h;intro u₀ hu h;obtain rfl:=jv hu;refine bZ h ?_;clear h;intro hok h;simp only [Ck,and_eq_true,all_eq_true,or_eq_true,decide_eq_true_eq,not_eq_true'] at hok;refine au hok ?_;clear hok;intro hh;refine au hh ?_;clear hh;intro hh;refine au hh ?_;clear hh;intro hh;refine au hh ?_;clear hh;intro hh;refine au hh ?_;clear hh;intro hh;refine au hh ?_;clear hh;intro hk hco;intro hgen;intro hlen;intro hcf;intro nF;intro hnames;have hk:S.scope.kind=.function:=by simpa using hk
 have nF:S.scope.names.lookup x=some .local :=by simpa using nF
 refine jS h ?_;clear h;intro w σ₁ e1 h;refine bw rs.inv ?_;rintro v ws rfl rv rs;obtain rfl:=rs.nil_inv;refine cY rf.inv ?_;rintro a qV os rfl CL HO RC;refine cps fun Z kk=>?_;obtain⟨o,fd,c,co,cs,m1,d1,d2,d3,d4,d5,d6,d7,d8,d9,Ln,m2,⟨ws,tq,Lo,Lp⟩,Lq,Lr,Ls,xQ⟩:=CL.fn;refine kk ?_;clear kk;have jT:∀p∈S.scope.names,p.2≠.cell:=by
  intro p hp hf;rcases (hnames p hp).2 with (h|h)|h
  ·rw [hf] at h;cases h
  ·rw [hf] at h;cases h
  ·rw [hf] at h;cases h.1
 refine wpAny_call (kla_callFunE (o:=o) (fd:=fd) (body:=S.body) (by have:=Rm.depth;show A.depth<1000;lia) (HO _ m1).1 d1 (by rw [d4];simpa using hco) (by rw [d4];simpa using hgen) d3 ⟨c,co,ws,tq,Ln,(HO _ m2).1,Lo,by rw [d5];exact Lp⟩ ?_)
 rw [B3 d2 hx d8 d9];refine wpAny_pure ?_;rw [d4,d6,Lq,d5,d7];refine wpAny_newFunctionEnv jT (fun y hy=>?_) (fun h' hns hsb=>?_) hk
 ·simp only [mem_singleton] at hy;subst hy;exact nF
 ·have e0:(none:Option Env).isSome=false:=rfl;simp only [e0,false_eq_true,if_false] at hsb;have G:aM s.heap h':=by
   refine⟨fun b o e=>(hsb.2 b (ne_of_lt (lt_size e))).trans (get?_push_of_some _ e),?_⟩;rw [hsb.1,size_push];exact le_succ _
  have jL:s.heap.objs.size<h'.objs.size:=by rw [hsb.1,size_push];exact lt_succ_self _
  have hq:∀b∈[s.heap.objs.size],s.heap.objs.size≤b∧b<h'.objs.size:=by
   intro b hb;simp only [mem_singleton] at hb;subst hb;exact⟨le_refl _,jL⟩
  have gM:∀{cl:Bool},bS cl ρ ⟨ρ.ah,[s.heap.objs.size]++ρ.priv⟩ s.heap h':=pg G fun b hb=>(hq b hb).1;have KR:=KS hlen Lr Ls RC xQ;have I:bB X s.heap ρ (newEnv S.scope s.heap.objs.size mainGlobals (S.caps.zip cs) (S.qual++".<locals>.") (some a) fd.code none builtinsNs) (xK S x u₀ caps) ⟨ρ.ah,[s.heap.objs.size]++ρ.priv⟩ σ ({ s with heap:=h',toks:=s.toks+1 }:Shared):=by
   refine⟨Am.grown G,R.enter G hq Am.size,?_,G.step _,Am.size,le_refl _,fun y cc hy Z=>absurd rfl (jT _ (mem_of_lookup hy))⟩;refine { kind:=hk,globals:=rfl,builtins:=rfl,code:=fun z=>absurd rfl z,qual:=rfl,names:=fun y kd hy=>.inl hy,loc:=⟨_,hns,fun y w hy hw=>?_⟩,cell:=fun y kd hy hkd=>?_,priv:=by show s.heap.objs.size∈_;simp,pl:=fun⟨y,hy⟩=>absurd rfl (jT _ (mem_of_lookup hy)),inj:=fun y z cc hy hz=>?_,pv:=fun b hb=>?_ }
   ·have lO:(if y=x then some u₀ else (S.caps.zip caps).lookup y)=some w:=by rw [←Cj];exact hw
    split at lO
    ·rename_i hyx;cases lO;exact⟨v,by rw [hyx];simp,rv.mono (gM (cl:=true)) (.inl rfl)⟩
    ·exfalso;have hm:=mem_of_lookup lO;have hm':y∈S.caps:=(of_mem_zip hm).1;have:=hcf y hm';have hy':S.scope.names.lookup y=some .local :=hy;rw [hy'] at this;simp at this
   ·have hy':S.scope.names.lookup y=some kd:=hy;rcases hkd with rfl|rfl
    ·exact absurd rfl (jT _ (mem_of_lookup hy'))
    ·have hyc:y∈S.caps:=by
      rcases (hnames _ (mem_of_lookup hy')).2 with (h|h)|h
      ·simp at h
      ·simp at h
      ·simpa using h.2
     refine cY (KR y hyc) ?_;intro cc vv uu q1 q2 hh;refine aj hh ?_;clear hh;intro q q3 q4;intro q5;have hcc:=HO _ q3;refine⟨cc,some vv,q1,fun hm=>?_,⟨q,G.keep _ _ hcc.1,q4⟩,fun w hw=>?_⟩
     ·rcases aI.mp hm with z|z
      ·exact hcc.2 (aI.mpr (.inl z))
      ·rcases mem_append.mp z with z|z
       ·exact absurd (hq cc z).1 (not_le.mpr (lt_size hcc.1))
       ·exact hcc.2 (aI.mpr (.inr z))
     ·have lO:(if y=x then some u₀ else (S.caps.zip caps).lookup y)=some w:=by rw [←Cj];exact hw
      have hyx:y≠x:=by rintro rfl;rw [nF] at hy';cases hy'
      rw [if_neg hyx,q2] at lO;cases lO;exact⟨vv,rfl,q5.mono (gM (cl:=true)) (.inl rfl)⟩
   ·have h1:y∈S.caps:=(of_mem_zip (mem_of_lookup hy)).1;have h2:z∈S.caps:=(of_mem_zip (mem_of_lookup hz)).1;exact SW hlen h1 h2
   ·rcases mem_append.mp hb with h3|h3
    ·simp only [mem_singleton] at h3;subst h3;refine dw hns ?_;clear hns;intro o' es ep e' d' _;exact⟨o',e',.inl ⟨_,_,d'⟩⟩
    ·exact (bg b h3).keep fun o e=>G.keep b o e
  refine⟨(Am.grown (s':={ s with heap:=h',toks:=s.toks+1 }) G).lim,kla_codeExpr (wm (mY Fi CO fuel e1 Rm.deeper I.aG I.rel I.en) (fun vv s' hv=>?_))⟩
  obtain⟨aO,Sx,dc,R',UP⟩:=hv;have ST:Step X ρ ⟨aO,ρ.priv⟩ s.heap s'.heap:=((G.step ρ).fk.trans (Sx.fk (y:=fun Z=>False))).toStep;have hsub:∀b∈ρ.priv,b∈[s.heap.objs.size]++ρ.priv:=fun b hb=>mem_append_right _ hb;have:=Dp ST dc (R'.leave hsub) (UP.mono (pT (cl:=true) _ hsub) (.inl rfl));rw [R.len,show cD σ.length σ₁ w=(u,σ') from h] at this;exact this
end
section
variable{X:Ctx}{C:Calls}{k n:Nat}
section
variable{A:Around}{E:Value→Shared→Prop}{s:Shared}{ρ:aB}{σ:aa}
theorem QW{it l:Addr}{i:Nat}{items:Array Value}{x:Value}{Q:Option Value→Shared→Prop}(hit:s.heap.IsListIter it l i)(hl:s.heap.IsList l items)(hx:items[i]?=some x)
 (hQ:∀h',h'.IsListIter it l (i+1)→SameBut it s.heap h'→Q (some x) { s with heap:=h' }):wpAny (model P X.w) A (callSpecial? (.ref it) (ofString "__next__")) Q E s:=by
 refine bQ (id hit) ?_;intro o ho hc hd;obtain⟨ol,lM,_,nl,hdl⟩:=hl;refine wpAny_callSpecial?_slot (name:=ofString "__next__") hit.typeIs slot_listiter_next (wpAny_call_entry slot_listiter_next hit.typeIs entry_listiter_next ?_ (args_listiter_next _));show wpAny _ _ (field (.ref it) 0>>=_) _ _ s;refine wpAny_bind (wpAny_field ho hd (x:=.ref l) rfl ?_);show wpAny _ _ (if (Value.ref l==Value.none)=true then _ else _) _ _ s
 rw [if_neg (show ¬((Value.ref l==Value.none)=true) from Bool.false_ne_true)];show wpAny _ _ (field (.ref it) 1>>=_) _ _ s;refine wpAny_bind (wpAny_field ho hd (x:=.int i 0) rfl ?_);show wpAny _ _ (seqItems? (.ref l)>>=_) _ _ s;refine wpAny_bind (wpAny_seqItems lM hdl ?_);simp only [toNat_natCast,hx];refine wpAny_bind (wpAny_setField ho hd (by simp) (wpAny_pure ⟨x,rfl,hQ _ ?_ (SameBut.update ..)⟩))
 exact⟨_,get?_update_self _ ho (Obj.isFreed_of_fields (Obj.data_mapFields hd _)),(Obj.cls_mapFields ..).trans hc,by
  rw [Obj.data_mapFields hd];simp [rawInt]⟩
theorem JZ(Fi:bI X)(Am:aq X s)(R:Rel X ρ σ s.heap){v:Value}{m:Nat}{u:V}{l:List V}(r:VR X ρ s.heap v (.loc m))(hl:σ[m]?=some (.iter (u::l))) :
 wpAny (model P X.w) A (call (.builtin "next") [v]) (aD X ρ s (σ.set m (.iter l)) u) E s:=by
 refine aj r.inv ?_;rintro p rfl hm;refine aj (R.get hm) ?_;intro mo hmo om;obtain rfl:mo=.iter (u::l):=Option.some.inj (hmo.symm.trans hl);refine cps fun Z kk=>?_;obtain⟨a,b,i,vs,rfl,hit,pl,hnf,rs,hpl⟩:=om.inv;refine kk ?_;clear kk;refine bQ rs.tH ?_;intro x hx rx rr;refine call_function_entry (by decide+kernel) (by decide+kernel) kdk_entry_next (kdk_args_next _) ?_
 unfold Builtin.«next»
 refine wpAny_bind (m:=someArgs "next" 1 2 _) (wpAny_of_eq (a:=[Value.ref a]) (by first|rfl|kernel_rfl!) ?_)
 dsimp only;refine wpAny_bind (wpAny_specialOf (name:=ofString "__next__") hit.typeIs slot_listiter_next.lookup ?_);refine wpAny_ite_split (fun hab=>absurd hab (by decide)) (fun Z=>?_)
 refine wpAny_bind (QW hit pl.is hx fun h' rE sb=>?_);have U:=Upd.list hm sb;have S:Step X ρ ρ s.heap h':=U.step;have M:bS true ρ ρ s.heap h':=S.mono Am;replace hpl:=and_eq_true_iff.mp hpl;exact wpAny_pure ⟨_,rfl,ρ.ah,S,U.aG (s':={ s with heap:=h' }) Am Fi R,U.rel (s':={ s with heap:=h' }) Am R (.iter rE (M.list pl hnf).1 hnf (rr.step Am S) hpl.2),rx.step Am S⟩
structure wD(X:Ctx)(d:Addr)(tab:List (Int×Str)):Prop where
 lo:(d==sysModules)=false
 nt:¬X.tab d
 ex:∃o kvs,X.hB.get? d=some o∧o.IsDictOf (intKind P X.w) kvs∧PyProof.V.FlatPairs PyData.int kvs (tab.map fun p=>(PyData.int p.1,PyData.str p.2))
theorem lookup_tab(i:Int):∀tab:List (Int×Str),Spec.lookup (PyData.int i) (tab.map fun p=>(PyData.int p.1,PyData.str p.2))=(tab.lookup i).map PyData.str:=by
 intro tab
 induction tab with
 | nil=>exact rfl
 | cons p r rc=>
  show (if Spec.same (PyData.int p.1) (PyData.int i) then some (PyData.str p.2) else Spec.lookup (PyData.int i) (r.map fun p=>(PyData.int p.1,PyData.str p.2)))=_
  rw [rc,lookup_cons];have:Spec.same (PyData.int p.1) (PyData.int i)=(p.1==i):=rfl;rw [this]
  by_cases h:p.1=i
  ·subst h;simp
  ·have h2:(i==p.1)=false:=by simpa using fun z=>h z.symm
   have h1:(p.1==i)=false:=by simpa using h
   rw [h1,h2];rfl
theorem JO(Am:aq X s)(R:Rel X ρ σ s.heap){d:Addr}{tab:List (Int×Str)}(DB:wD X d tab){i:Int}{t u:Tok}{y:Str} :
 wpAny (model P X.w) A (call (.builtin "dict.get") [.ref d,.int i t,.str y u]) (aD X ρ s σ (.str ((tab.lookup i).getD y))) E s:=by
 refine bw DB.ex ?_;intro o kvs e hd hf;refine call_get2_intTab (TabAt.ofObj DB.lo (Am.keep _ _ e DB.nt) hd hf) (dd:=.str y) (fun h=>.str y u) fun v hv=>?_;rw [lookup_tab] at hv;have hv':PyProof.V.Flat v (.str ((tab.lookup i).getD y)):=by
  cases h:tab.lookup i with
  | none=>rw [h] at hv;exact hv
  | some z=>rw [h] at hv;exact hv
 have:=hv' s.heap;cases this;exact aD.here Am R (aM.refl _) (.str _ _)
end
end
section
variable{α:Type}{cv:V}{A:Around}
variable{X:Ctx}{C:Calls}{k n:Nat}
noncomputable def n9(cmp:Nat→Nat→Bool):KasT α→α
 | .ret a=>a
 | .ask i j t=>n9 cmp (t (cmp i j))
noncomputable def kD(n:Nat):KasT α→Bool
 | .ret _=>true
 | .ask i j t=>decide (i<n)&&decide (j<n)&&kD n (t true)&&kD n (t false)
noncomputable def eH(ks:List Int):Array Nat:=n9 (fun i j=>decide (ks.getD i 0<ks.getD j 0)) (kas_sort ks.length)
noncomputable def gX(p:Array Nat)(l:List α):List α:=p.toList.filterMap (l[·]?)
noncomputable def nJ(C:Calls)(cv:V):List V→aa→Option (List Int×aa)
 | [],σ=>some ([],σ)
 | v::r,σ=>(C.call cv [v] none σ).bind fun (u,σ)=>match u with
  | .int i=>(nJ C cv r σ).map fun (is,σ)=>(i::is,σ)
  | _=>none
theorem Qz{v:V}{r:List V}{σ σ':aa}{k:Int}{ks:List Int}(h:nJ C cv (v::r) σ=some (k::ks,σ')):∃σ₁,C.call cv [v] none σ=some (.int k,σ₁)∧nJ C cv r σ₁=some (ks,σ'):=by
 refine aY h ?_;intro u σ₁ e h;cases u<;>first|exact nn h|skip
 refine jS h ?_;intro is σ₂ e3 h;refine au (Prod.mk.inj h) ?_;rintro hk rfl;refine au (List.cons.inj hk) ?_;rintro rfl rfl;exact⟨_,e,e3⟩
theorem EX:∀{l:List V} {σ:aa} {ks:List Int} {σ':aa},nJ C cv l σ=some (ks,σ')→ks.length=l.length:=by
 intro l
 induction l with
 | nil=>intro σ ks σ' h;rw [←(fT h).1];rfl
 | cons v r rc=>
  intro σ ks σ' h;refine aY h ?_;intro u σ₁ e1 h;cases u<;>first|exact nn h|skip
  refine jS h ?_;intro is σ₂ e2 h;rw [←(Prod.mk.inj h).1];exact congrArg (·+1) (rc e2)
theorem inR{n i j:Nat}{t:Bool→KasT α}(h:kD n (.ask i j t)=true):i<n∧j<n∧∀b,kD n (t b)=true:=by
 refine au (and_eq_true_iff.mp h) ?_;intro h1 h2;refine au (and_eq_true_iff.mp h1) ?_;intro h3 h4;refine au (and_eq_true_iff.mp h3) ?_;intro h5 h6;exact⟨of_decide_eq_true h5,of_decide_eq_true h6,fun b=>match b with|true=>h4|false=>h2⟩
theorem ES{w:World}{κ:SortKind}{it:Array Keyed}{n:Nat}{cmp:Nat→Nat→Bool}(hc:∀i j (Q:Bool→Shared→Prop) s,i<n→j<n→Q (cmp i j) s→kas_cmp P w A κ it i j Q s){G:α→Shared→Prop} :
 ∀(t:KasT α) (s:Shared),kD n t=true→G (n9 cmp t) s→t.kasWp (kas_cmp P w A κ it) G s
 | .ret a,s,_,h=>h
 | .ask i j t,s,hr,h=>by
  refine bO (inR hr) ?_;intro h1 h2 h3;exact hc i j _ s h1 h2 (ES hc (t (cmp i j)) s (h3 _) h)
theorem Va{E:Value→Shared→Prop}{s:Shared}{D kS:Addr}{e e1:Nat}{keys:Array Value}{vs:List Value}{kz:List Int}{Q:PySem.Fin→Shared→Prop}(hne:kS≠D)
 (pI:s.heap.get? kS=some (seqObj "list" keys e)) (hD:s.heap.get? D=some (seqObj "list" #[] e1)) (hk:IntsAre keys.toList kz) (hlen:kz.length=vs.length) (h2:2≤vs.length) (h64:vs.length<64) (hr:kD vs.length (kas_sort vs.length)=true) (uI:∀i∈(eH kz).toList,i<vs.length)
 (h:∀h' c,(∀b o,b≠kS→b≠D→s.heap.get? b=some o→h'.get? b=some o)→h'.objs.size=s.heap.objs.size→h'.get? D=some (seqObj "list" (gX (eH kz) vs).toArray c)→Q (.done (.ret .none)) { s with heap:=h' }) :
 wpAny (model P X.w) A (ksk_end D false vs.toArray e1 (.ref kS) keys) Q E s:=by
 have hsz:keys.size=vs.length:=by
  have h1:=hk.length;rw [length_toList] at h1;lia
 have hzs:(keys.zip vs.toArray).size=vs.length:=by rw [Array.size_zip,hsz,size_toArray,Nat.min_self]
 unfold ksk_end;simp only [false_eq_true,if_false];have hn2:¬vs.toArray.size<2:=by rw [size_toArray];lia
 rw [if_neg hn2,if_neg hn2,ksk_kind hk (by rw [hsz];lia)]
 refine wpAny_bind (wpAny_pure ?_);have hst:SortSt.mk' oneType' (keys.zip vs.toArray) #[] 7 none=kas_st oneType' (keys.zip vs.toArray) (toArray (List.range (keys.zip vs.toArray).size)):=by
  unfold kas_st;rw [kas_range]
 rw [hst,hzs];have item:∀i (hi:i<vs.length),∃t:Tok,kas_item (keys.zip vs.toArray) i=(Value.int (kz.getD i 0) t,vs[i]):=by
  intro i hi;have hik:i<keys.size:=by lia
  unfold kas_item;have e1:(keys.zip vs.toArray).getD i (Value.none,Value.none)=(keys[i],vs[i]):=by
   simp [Array.getD,hzs,hi]
  rw [e1];have hki:keys.toList[i]?=some keys[i]:=by simp [hik]
  have hz:kz[i]?=some (kz.getD i 0):=by
   rw [getD_eq_getElem?_getD,getElem?_eq_getElem (by lia)];rfl
  obtain⟨t,ht⟩:∃t:Tok,keys[i]=Value.int (kz.getD i 0) t:=by
   have:∀{a:List Value} {b:List Int},IntsAre a b→∀(i:Nat) (x:Value) (y:Int),a[i]?=some x→b[i]?=some y→∃t:Tok,x=Value.int y t:=by
    intro a b hab
    induction hab with
    | nil=>intro i x y h;simp at h
    | cons u t _ ih=>
     intro i x y h1 h2;cases i with
     | zero=>simp at h1 h2;subst h1 h2;exact⟨_,rfl⟩
     | succ i=>simp at h1 h2;exact ih i x y h1 h2
   exact this hk i _ _ hki hz
  exact⟨t,by rw [ht]⟩
 refine wpAny_bind ?_;have main:kasC (model P X.w) A E sortRuns' (fun Z st' s'=>s'=s∧failedOf st'=none∧∃p',p'=eH kz∧p'.size=vs.length∧arrOf st'=p'.map (kas_item (keys.zip vs.toArray)))
  (kas_st oneType' (keys.zip vs.toArray) (toArray (List.range vs.length))) s:=by
  refine kas_runs (G:=fun p s'=>s'=s∧p=eH kz) h2 h64 (fun p' st' s' q1 q2 q3 q4=>⟨q4.1,q3,p',q4.2,q1,q2⟩) (ES (cmp:=fun i j=>decide (kz.getD i 0<kz.getD j 0)) (n:=vs.length) (fun i j Q' s' hi hj hq=>?_) _ s hr ⟨rfl,by unfold eH;rw [hlen]⟩)
  refine aA (item i hi) ?_;intro t ht;refine aA (item j hj) ?_;intro t' ht';unfold kas_cmp;rw [ht,ht'];exact kat_lt_int hq
 unfold kasC at main;refine wm main ?_;intro hh;obtain⟨⟨⟩,st'⟩:=hh;intro s' hh;obtain⟨rfl,hfl,p',rfl,hps,DW⟩:=hh;dsimp only at hfl DW ⊢;have hout:(arrOf st').map (·.2)=(gX (eH kz) vs).toArray:=by
  rw [DW];apply toList_inj.mp;unfold gX;simp only [Array.toList_map,map_map];revert uI;generalize (eH kz).toList=ps;intro uI
  induction ps with
  | nil=>rfl
  | cons i ps ih=>have hi:=uI i mem_cons_self;refine aA (item i hi) ?_;intro t ht;have Od:vs[i]?=some vs[i]:=getElem?_eq_getElem hi;rw [map_cons,filterMap_cons,Od,ih fun j hj=>uI j (mem_cons_of_mem _ hj)];simp [ht]
 unfold ksk_tail;dsimp only;rw [hout];have s1:=SameBut.update s'.heap kS (mapSeq fun Z=>(#[]:Array Value));have m9:(s'.heap.update kS (mapSeq fun Z=>(#[]:Array Value))).get? D=some (seqObj "list" #[] e1):=(s1.2 D hne.symm).trans hD;have s2:=SameBut.update (s'.heap.update kS (mapSeq fun Z=>(#[]:Array Value))) D (mapSeq fun Z=>(gX (eH kz) vs).toArray);obtain⟨c2,hc2⟩:∃c2,((s'.heap.update kS (mapSeq fun Z=>(#[]:Array Value))).update D (mapSeq fun Z=>(gX (eH kz) vs).toArray)).get? D=some (seqObj "list" (gX (eH kz) vs).toArray c2):=
  ⟨_,get?_update_seq m9 fun Z=>(gX (eH kz) vs).toArray⟩
 have hpl:(gX (eH kz) vs).length≤vs.length:=by
  unfold gX;refine le_trans (List.length_filterMap_le _ _) ?_;simpa using le_of_eq hps
 refine wpAny_bind (listUpdate_at pI rfl ?_ (by rw [hsz,sizeLine_eq];lia) (zero_le _))
 refine wpAny_bind (wpAny_letGo ?_);refine wpAny_bind (seqEpoch_at m9 rfl ?_);refine wpAny_bind (listUpdate_at m9 rfl ?_ (zero_le _) (by simp only [false_eq_true,if_false,size_toArray,sizeLine_eq];lia))
 rw [hfl];refine fH (bne_self_eq_false _) ?_;exact wpAny_pure (h _ c2 (fun b o h1 h2 e=>(s2.2 b h2).trans ((s1.2 b h1).trans e)) (s2.1.trans s1.1) hc2)
end
section
variable{A:Around}{E:Value→Shared→Prop}{ρ:aB}{s:Shared}{σ σ':aa}{f:Value}{l:List V}{vs:List Value}
variable{X:Ctx}{C:Calls}{k n:Nat}
structure wV(X:Ctx)(C:Calls)(ρ:aB)(s:Shared)(kS D:Addr)(e1:Nat)(cv:V)(l:List V)(ks:List Int)(σ':aa)(i:Nat)(s':Shared)(ah:List (Addr×Addr))(σi:aa)(kA:Array Value)(e:Nat):Prop where
 step:Step X ρ ⟨ah,ρ.priv⟩ s.heap s'.heap
 aG:aq X s'
 rel:Rel X ⟨ah,[kS,D]++ρ.priv⟩ σi s'.heap
 kS:s'.heap.get? kS=some (seqObj "list" kA e)
 D:s'.heap.get? D=some (seqObj "list" #[] e1)
 keys:IntsAre kA.toList (ks.take i)
 pv:∀a∈ρ.priv,bX s'.heap a
 rest:nJ C cv (l.drop i) σi=some (ks.drop i,σ')
theorem Vb(Fi:bI X)(CO:bL X C k){s₁:Shared}{D kS:Addr}{e1:Nat}{cv:V}{ks:List Int}{Q:PySem.Fin→Shared→Prop}
 (Rm:aT k A) (Am:aq X s) (R:Rel X ρ σ s.heap) (hne:kS≠D) (pI:s.heap.objs.size≤kS) (Nl:s.heap.objs.size≤D) (rf:VR X ρ s.heap f cv) (rs:aC X ρ s.heap vs l) (hn:l.length<64)
 (I:wV X C ρ s kS D e1 cv l ks σ' 0 s₁ ρ.ah σ #[] 0)
 (hQ:∀s' ah kA e,wV X C ρ s kS D e1 cv l ks σ' l.length s' ah σ' kA e→wpAny (model P X.w) A (ksk_end D false vs.toArray e1 (.ref kS) kA) Q E s') :
 wpAny (model P X.w) A (ksk_rest D f false vs.toArray e1 (.ref kS)) Q E s₁:=by
 have yM:ks.length=l.length:=by simpa using EX I.rest
 have hvl:vs.length=l.length:=rs.length;unfold ksk_rest;refine wpAny_bind (wpAny_rule ?_)
 first
  | rw [List.forIn_toArray]
  | (rw [←Array.forIn_toList];simp only [List.toList_toArray])
  | rw [←Array.forIn_toList]
 refine wpAny_bind (ksk_fold (fun i s'=>∃ah σi kA e,wV X C ρ s kS D e1 cv l ks σ' i s' ah σi kA e) vs 0 s₁ ⟨_,_,_,_,I⟩ (fun j x s' hx hI=>?_) fun s' hI=>?_)
 ·simp only [zero_add] at hI ⊢;refine o9 hI ?_;clear hI;intro ah σi kA e I;have hj:j<vs.length:=(List.getElem?_eq_some_iff.mp hx).1;have hjl:j<l.length:=by lia
  have hjk:j<ks.length:=by lia
  have hrest:=I.rest;rw [List.drop_eq_getElem_cons hjl,List.drop_eq_getElem_cons hjk] at hrest;refine aj (Qz hrest) ?_;intro σ₁ e2 e3;have M:bS true ρ ⟨ah,[kS,D]++ρ.priv⟩ s.heap s'.heap:=by
   refine⟨fun a o e' ha hv=>I.step.keep a o e' (Am.kK e' hv) (fun q=>ha (aI.mpr (.inl q))),I.step.pre,fun a ha hn'=>?_⟩;rcases aI.mp ha with z|z
   ·exact I.step.cI a z fun q=>hn' (aI.mpr (.inl q))
   ·rcases mem_append.mp z with z|z
    ·simp only [mem_cons,not_mem_nil,or_false] at z;rcases z with rfl|rfl
     ·exact pI
     ·exact Nl
    ·exact absurd (aI.mpr (.inr z)) hn'
  refine aj (rs.get (getElem?_eq_getElem hjl)) ?_;intro x' hx' rx;obtain rfl:x=x':=Option.some.inj (hx.symm.trans hx');have OC:∀a∈[kS,D]++ρ.priv,bX s'.heap a:=by
   intro a ha;rcases mem_append.mp ha with z|z
   ·simp only [mem_cons,not_mem_nil,or_false] at z;rcases z with rfl|rfl
    ·exact⟨_,I.kS,.inr ⟨_,_,rfl⟩⟩
    ·exact⟨_,I.D,.inr ⟨_,_,rfl⟩⟩
   ·exact I.pv a z
  refine wpAny_bind (wpAny_attempt (wpAny_mono (CO.call e2 (E:=fun Z Z=>False) Rm I.aG I.rel OC (rf.mono M (.inl rfl)) (.cons (rx.mono M (.inl rfl)) .nil) (.inl ⟨rfl,rfl⟩)) (fun v s'' hv=>?_) fun Z Z hF=>hF.elim));obtain⟨E3,S2,dH,R2,rv⟩:=hv;refine aA rv.inv ?_;rintro t2 rfl;dsimp only;have kk:kS∈[kS,D]++ρ.priv:=by simp
  have kd:D∈[kS,D]++ρ.priv:=by simp
  have zM:=S2.keep _ _ I.kS (I.aG.kK I.kS (.inl ⟨_,_,rfl⟩)) fun q=>I.rel.cR _ q kk;have nD:=S2.keep _ _ I.D (I.aG.kK I.D (.inl ⟨_,_,rfl⟩)) fun q=>I.rel.cR _ q kd;have sb:=SameBut.update s''.heap kS (mapSeq (·.push (.int ks[j] t2)))
  obtain⟨c2,hc2⟩:∃c2,(s''.heap.update kS (mapSeq (·.push (.int ks[j] t2)))).get? kS=some (seqObj "list" (kA.push (.int ks[j] t2)) c2):=⟨_,get?_update_seq zM (·.push (.int ks[j] t2))⟩
  have hz:kA.size≤64:=by
   have h1:=I.keys.length;rw [length_toList,length_take] at h1;rw [h1];exact le_trans (Nat.min_le_left _ _) (le_of_lt (lt_trans hjl (by assumption)))
  have Qt:Quiet true ⟨E3,[kS,D]++ρ.priv⟩ (·=kS) s''.heap (s''.heap.update kS (mapSeq (·.push (.int ks[j] t2)))):=
   {keep:=fun a o e hne=>(sb.2 a hne).trans e
    size:=le_of_eq sb.1.symm
    ge:=fun a ha=>ha▸le_trans Am.size pI
    fX:=fun a ha q=>R2.cR a q (ha▸kk)
    kind:=fun a o ha e=>by
     subst ha;obtain rfl:=Option.some.inj (e.symm.trans zM);exact .inr (.inl ⟨kk,_,_,rfl⟩) }
  have ek:ks.take (j+1)=ks.take j++[ks[j]]:=by rw [List.take_add_one,getElem?_eq_getElem hjk];simp
  refine wpAny_bind (listUpdate_at zM rfl ?_ (by rw [sizeLine_eq];lia) (le_trans (le_of_eq (Array.size_push ..)) (by rw [sizeLine_eq];lia)))
  refine wpAny_pure ⟨rfl,E3,σ₁,kA.push (.int ks[j] t2),c2,⟨(I.step.trans (S2.re ρ.priv)).quiet Qt fun a ha=>ha▸pI,dH.quiet Fi.size Qt,R2.quiet Qt,hc2,(sb.2 D hne.symm).trans nD,?_,fun a ha=>?_,e3⟩⟩
  ·rw [ek,toList_push];exact ksk_snoc I.keys
  ·have hlt:a<s.heap.objs.size:=R.lt a (aI.mpr (.inr ha));have NJ:a≠kS:=fun z=>by rw [z] at hlt;exact absurd hlt (not_lt.mpr pI)
   refine ((I.pv a ha).keep fun o e'=>S2.keep a o e' (I.aG.lY e' ((I.pv a ha).F0 e') (.inl (jt (R.ge _ (aI.mpr (.inr ha)))))) fun q=>I.rel.cR a q (mem_append_right _ ha)).keep fun o e'=>(sb.2 a NJ).trans e'
 ·refine o9 hI ?_;clear hI;intro ah σi kA e I;simp only [zero_add] at I;rw [hvl] at I;have hr:=I.rest;rw [List.drop_eq_nil_of_le (le_refl _)] at hr;refine au (fT hr) ?_;rintro hr1 rfl;refine wpAny_bind (listItems_at I.kS rfl ?_);exact hQ s' ah kA e I
noncomputable def zU(ks:List Int)(m:Nat):Bool:=kD m (kas_sort m)&&(eH ks).toList.all fun i=>decide (i<m)
noncomputable def vR(C:Calls)(cv:V)(l:List V)(σ:aa):Option (V×aa):=
 if 2≤l.length∧l.length<64 then (nJ C cv l σ).bind fun (ks,σ')=>if zU ks l.length then some (.lst (gX (eH ks) l),σ') else none else none
theorem aC.perm{h:Heap}{us:List V}(r:aC X ρ h vs us)(p:Array Nat):aC X ρ h (gX p vs) (gX p us):=r.pick p.toList
theorem J1(Fi:bI X)(CO:bL X C k){v:Value}{S:fU}{caps:List V}{u w:V}
 (Rm:aT (k+1) A) (Am:aq X s) (R:Rel X ρ σ s.heap) (bg:∀a∈ρ.priv,bX s.heap a) (rf:VR X ρ s.heap f (.aE S caps)) (r:VR X ρ s.heap v u) (hl:listOf σ u=some l) (h:vR C (.aE S caps) l σ=some (w,σ')) :
 wpAny (model P X.w) A (call (.builtin "sorted") [v] [(("key":Str),f)]) (aD X ρ s σ' w) E s:=by
 refine cps fun Z kk=>?_;refine bZ h ?_;intro h2 h;refine aY h ?_;intro ks σ₁ hk h;refine bJ h ?_;intro hok h;refine kk ?_;clear kk;refine au (and_eq_true_iff.mp hok) ?_;intro Oz OA;refine au (Prod.mk.inj h) ?_;rintro rfl rfl;refine bw (iL R r hl) ?_;rintro a HN rfl pl rs;obtain⟨q,rfl⟩:∃q,f=.ref q:=by refine bG rf.inv ?_;intro _ _ _ h _;exact⟨_,h⟩
 generalize hvs:HN.toList=vs at rs;have OT:HN=vs.toArray:=by rw [←hvs]
 subst OT;have hlen:vs.length=l.length:=rs.length;have hl':s.heap.IsList a vs.toArray:=pl.is;refine call_function_entry_kw kind_sorted plain_sorted entry_sorted (ksk_s1 _ _) ?_;unfold Builtin.«sorted»;refine wpAny_bind (m:=checkCount "sorted" 1 1 _) (wpAny_pure ?_);refine wpAny_bind (collect_list hl' ?_ (by rw [sizeLine_eq];lia))
 refine wpAny_bind (wpAny_newList ?_ (by rw [sizeLine_eq];lia))
 generalize DJ:(s.heap.push (seqObj "list" #[] 0)).update s.heap.objs.size (mapSeq (·++vs.toArray))=H1
 have hsz:H1.objs.size=s.heap.objs.size+1:=by rw [←DJ,Heap.size_update,size_push']
 have uG:(H1.push (seqObj "list" vs.toArray 0)).get? (s.heap.objs.size+1)=some (seqObj "list" vs.toArray 0):=by
  rw [←hsz];exact get?_push_size _ rfl
 have keep:∀b o,s.heap.get? b=some o→(H1.push (seqObj "list" vs.toArray 0)).get? b=some o:=fun b o q=>by
  have hlt:b<s.heap.objs.size:=lt_size q;rw [Heap.get?_push_ne _ _ _ (by rw [hsz];exact ne_of_lt (lt_succ_of_lt hlt)),←DJ,Heap.get?_update_ne _ _ _ _ (ne_of_lt hlt),Heap.get?_push_ne _ _ _ (ne_of_lt hlt)]
  exact q
 show wpAny _ _ _ _ _ { s with heap:=H1.push (seqObj "list" vs.toArray 0) }
 rw [hsz];refine wpAny_bind (wpAny_holding (wpAny_call_entry_kw slot_list_sort ⟨_,uG,rfl⟩ entry_list_sort ?body (ksk_l1 _ _)))
 case body=>
  show wpAny (model P X.w) A.in1.in1 (Builtin.«list.sort» ⟨[.ref (s.heap.objs.size+1)],[(ofString "key",.ref q)]⟩) _ _ _;rw [ksk_t1];unfold ksk_tree;refine wpAny_bind (listItems_at uG rfl ?_);refine wpAny_bind (listUpdate_at uG rfl ?_ (by rw [size_toArray,sizeLine_eq];lia) (zero_le _))
  obtain⟨e1,yS⟩:∃e1,((H1.push (seqObj "list" vs.toArray 0)).update (s.heap.objs.size+1) (mapSeq fun Z=>(#[]:Array Value))).get? (s.heap.objs.size+1)=some (seqObj "list" #[] e1):=⟨_,get?_update_seq uG fun Z=>#[]⟩;refine wpAny_bind (seqEpoch_at yS rfl ?_);refine wpAny_bind (wpAny_newTuple ?_ (by show vs.length≤_;rw [sizeLine_eq];lia))
  refine wpAny_bind (wpAny_newList ?_ (zero_le _));refine wpAny_holding ?_;dsimp only;generalize DK:(H1.push (seqObj "list" vs.toArray 0)).update (s.heap.objs.size+1) (mapSeq fun Z=>(#[]:Array Value))=H2 at yS ⊢;have hs2:H2.objs.size=s.heap.objs.size+2:=by rw [←DK,Heap.size_update,size_push',hsz]
  have Qx:∀b o,s.heap.get? b=some o→H2.get? b=some o:=fun b o q=>by
   have hlt:b<s.heap.objs.size:=lt_size q;rw [←DK,Heap.get?_update_ne _ _ _ _ (ne_of_lt (lt_succ_of_lt hlt))];exact keep b o q
  have uL:(H2.push (seqObj "tuple" vs.toArray 0)).objs.size=s.heap.objs.size+3:=by rw [size_push',hs2]
  have G:aM s.heap ((H2.push (seqObj "tuple" vs.toArray 0)).push (seqObj "list" #[] 0)):=⟨fun b o e=>get?_push_of_some _ (get?_push_of_some _ (Qx b o e)),by rw [size_push',uL];lia⟩
  have hq:∀b∈[s.heap.objs.size+3,s.heap.objs.size+1],s.heap.objs.size≤b∧b<((H2.push (seqObj "tuple" vs.toArray 0)).push (seqObj "list" #[] 0)).objs.size:=by
   intro b hb;rw [size_push',uL];simp only [mem_cons,not_mem_nil,or_false] at hb;rcases hb with rfl|rfl
   ·exact⟨le_add_right _ _,lt_succ_self _⟩
   ·exact⟨le_add_right _ _,lt_of_lt_of_le (Nat.add_lt_add_left (by decide:1<3) _) (le_succ _)⟩
  show wpAny (model P X.w) A.in1.in1 (ksk_rest (s.heap.objs.size+1) (.ref q) false vs.toArray e1 (.ref (H2.push (seqObj "tuple" vs.toArray 0)).objs.size)) _ _ { s with heap:=(H2.push (seqObj "tuple" vs.toArray 0)).push (seqObj "list" #[] 0) }
  rw [uL];refine Vb Fi CO (s:=s) (kS:=s.heap.objs.size+3) (⟨Rm.handled,by have:=Rm.depth;show A.depth+_<_;lia,by have:=Rm.units;show A.units+1+1+_<_;lia⟩) Am R (fun z=>absurd (Nat.add_left_cancel z) (by decide)) (le_add_right _ _) (le_add_right _ _) rf rs h2.2
   ⟨G.step ρ,Am.grown G,R.enter G hq Am.size,by rw [←uL];exact get?_push_size _ rfl,get?_push_of_some _ (get?_push_of_some _ yS),.nil,fun b hb=>(bg b hb).keep fun o e=>G.keep b o e,hk⟩ fun s' ah kA e J=>?_
  have hne:s.heap.objs.size+3≠s.heap.objs.size+1:=fun z=>absurd (Nat.add_left_cancel z) (by decide)
  have yM:ks.length=l.length:=EX hk;refine Va hne J.kS J.D (by have:=J.keys;rwa [take_of_length_le (by lia)] at this) (by lia) (by lia) (by lia) (by rw [hlen];exact Oz) (by rw [hlen];exact fun i hi=>of_decide_eq_true (all_eq_true.mp OA i hi)) fun h' c hkeep hsize hD=>?_
  refine⟨_,rfl,?_⟩;have kk:∀b,(b=s.heap.objs.size+3∨b=s.heap.objs.size+1)→b∈[s.heap.objs.size+3,s.heap.objs.size+1]++ρ.priv:=by
   rintro b (rfl|rfl)<;>simp
  have ks':∀b,(b=s.heap.objs.size+3∨b=s.heap.objs.size+1)→s.heap.objs.size≤b:=by
   rintro b (rfl|rfl)<;>exact le_add_right _ _
  have Qt:Quiet true ⟨ah,[s.heap.objs.size+3,s.heap.objs.size+1]++ρ.priv⟩ (fun b=>b=s.heap.objs.size+3∨b=s.heap.objs.size+1) s'.heap h':=
   {keep:=fun b o e hn=>hkeep b o (fun z=>hn (.inl z)) (fun z=>hn (.inr z)) e
    size:=le_of_eq hsize.symm
    ge:=fun b hb=>le_trans Am.size (ks' b hb)
    fX:=fun b hb q=>J.rel.cR b q (kk b hb)
    kind:=fun b o hb e=>by
     refine .inr (.inl ⟨kk b hb,?_⟩);rcases hb with rfl|rfl
     ·obtain rfl:=Option.some.inj (e.symm.trans J.kS);exact⟨_,_,rfl⟩
     ·obtain rfl:=Option.some.inj (e.symm.trans J.D);exact⟨_,_,rfl⟩ }
  have ST:Step X ρ ⟨ah,ρ.priv⟩ s.heap h':=J.step.quiet Qt ks';have hsub:∀b∈ρ.priv,b∈[s.heap.objs.size+3,s.heap.objs.size+1]++ρ.priv:=fun b hb=>mem_append_right _ hb;refine wpAny_pure ⟨_,rfl,ah,ST,J.aG.quiet (s':={ s' with heap:=h' }) Fi.size Qt,(J.rel.quiet Qt).leave hsub,.lst ⟨c,hD⟩ (fun hm=>?_) ?_⟩
  ·rcases aI.mp hm with z|z
   ·exact J.rel.cR _ z (kk _ (.inr rfl))
   ·exact absurd (R.lt _ (aI.mpr (.inr z))) (not_lt.mpr (le_add_right _ _))
  ·exact (rs.step Am ST).perm (eH ks)
end
section
variable{X:Ctx}{C:Calls}{k n:Nat}
structure Tables where
 fns:List b9
 glob:List (Str×V)
 flags:Addr
 x9:List (Int×Str)
 lams:List (Addr×Str)
 acc:Addr
 push:Addr
 iO:Addr
 pop:Addr
 count:Addr
 fuel:Nat
noncomputable def rZ(name:Str):Option V:=
 if name=("append":Str) then some (.bi "list.append") else if name=("insert":Str) then some (.bi "list.insert") else if name=("count":Str) then some (.bi "list.count") else none
noncomputable def Bm(T:Tables)(name:Str):Option V:=
 if name=("push":Str) then some (.base T.push) else if name=("pop_from":Str) then some (.base T.iO) else if name=("pop":Str) then some (.base T.pop)
  else if name=("part_count":Str) then some (.base T.count) else none
noncomputable def zR(T:Tables)(name:Str):bY→Option V
 | .list _=>rZ name
 | .acc _ _=>Bm T name
 | .iter _=>none
noncomputable def vK(T:Tables)(ov:V)(name:Str)(σ:aa):Option V:=match ov with
 | .str _=>if name=("join":Str) then some (.bi "str.join") else if name=("split":Str) then some (.bi "str.split") else none
 | .base a=>if a=T.flags∧name=("get":Str) then some (.bi "dict.get") else none
 | .lst _=>rZ name
 | .loc m=>(σ[m]?).bind (zR T name)
 | _=>none
noncomputable def vC(v:V):Option (Str×Str):=v.v9.bind fun l=>(iV l).bind fun (a,b)=>a.gH.bind fun a=>b.gH.map fun b=>(a,b)
theorem Tr{v:V}{a b:Str}(h:vC v=some (a,b)):v=.tup [.str a,.str b]:=by
 refine cps fun Z kk=>?_;refine aH h ?_;intro l e1 h;refine aY h ?_;intro x y e2 h;refine aH h ?_;intro x' e3 h;refine bW h ?_;intro y' e4 h;refine kk ?_;clear kk;cases h;rw [AM e1,qB e2,iU e3,iU e4]
noncomputable def pieceText:List V→Option Str
 | []=>some ⟨#[]⟩
 | v::r=>(vC v).bind fun (a,b)=>(pieceText r).map fun t=>a++b++t
noncomputable def tD(T:Tables)(a:Addr)(us:List V)(σ:aa):Option (V×aa):=match us with
 | []=>none
 | o::rest=>(iX σ o).bind fun (m,init,l)=>
  if a=T.push then (iV rest).bind fun (x,y)=>x.gH.bind fun x=>y.gH.bind fun y=>if l.length<64 then some (.none,σ.set m (.acc init (l++[.tup [.str x,.str y]]))) else none
  else if a=T.iO then (one? rest).bind fun i=>i.int?.bind fun i=>if 0≤i∧i≤64∧l.length≤64 then some (.lst (l.drop i.toNat),σ.set m (.acc init (l.take i.toNat))) else none
  else if a=T.pop then if rest=[]∧l.length≤64 then match l.getLast? with
   | none=>some (.tup [.str ⟨#[]⟩,.str ⟨#[]⟩],σ)
   | some u=>some (u,σ.set m (.acc init l.dropLast))
   else none
  else if a=T.count then if rest=[]∧l.length≤64 then some (.int l.length,σ) else none
  else none
noncomputable def qK(σ:aa)(u:V):Option (Int×Str):=(iX σ u).bind fun (_,init,l)=>
 if l.length≤64 then (pieceText l).bind fun t=>if t.length≤1024∧init.natAbs≤1024∧0≤init then some (init,t) else none else none
noncomputable def lenOf(u:V)(σ:aa):Option (V×aa):=match listOf σ u with
 | some l=>if l.length<2^20 then some (.int l.length,σ) else none
 | none=>(qK σ u).map fun (i,t)=>(.int (i+t.length),σ)
noncomputable def xr(us:List V)(σ:aa):Option (V×aa):=(one? us).bind fun u=>match u.gH with
 | some x=>if x.length<2^20 then some (.int x.length,σ) else none
 | none=>lenOf u σ
noncomputable def BX(us:List V)(σ:aa):Option (V×aa):=(one? us).bind fun u=>(listOf σ u).bind fun l=>(intsOf l).bind fun ns=>if jc ns then some (.int ns.sum,σ) else none
noncomputable def BN(us:List V)(σ:aa):Option (V×aa):=(one? us).bind fun u=>u.int?.bind fun i=>if (baseText "0x" 16 i).length≤sizeLine then some (.str (baseText "0x" 16 i),σ) else none
noncomputable def BO(us:List V)(σ:aa):Option (V×aa):=(one? us).bind fun u=>u.se.bind fun l=>if V.bD l then some (.loc σ.length,σ++[.iter l]) else none
noncomputable def bY.next?:bY→Option (V×List V)
 | .iter (u::l)=>some (u,l)
 | _=>none
theorem R9{o:bY}{u:V}{l:List V}(h:o.next?=some (u,l)):o=.iter (u::l):=by
 cases o with
 | iter l=>cases l with
  | nil=>exact nn h
  | cons=>cases h;rfl
 | _=>exact nn h
noncomputable def BR(us:List V)(σ:aa):Option (V×aa):=(one? us).bind fun u=>u.loc?.bind fun m=>(σ[m]?).bind fun o=>o.next?.bind fun (u,l)=>some (u,σ.set m (.iter l))
noncomputable def xj(us:List V)(σ:aa):Option (V×aa):=(iV us).bind fun (o,u)=>o.loc?.bind fun m=>(listAt σ m).bind fun l=>
 if u.plain∧l.length≤sizeLine then some (.none,σ.set m (.list (l++[u]))) else none
noncomputable def xq(us:List V)(σ:aa):Option (V×aa):=(v7 us).bind fun (o,i,u)=>o.loc?.bind fun m=>i.int?.bind fun i=>(listAt σ m).bind fun l=>
 if u.plain∧l.length≤sizeLine∧0≤i∧i<2^62 then some (.none,σ.set m (.list (l.take (min i.toNat l.length)++u::l.drop (min i.toNat l.length)))) else none
noncomputable def BK(us:List V)(σ:aa):Option (V×aa):=(iV us).bind fun (u,i)=>i.int?.bind fun i=>(listOf σ u).bind fun l=>(intsOf l).map fun ns=>(.int (ns.count i:Nat),σ)
noncomputable def BP(us:List V)(σ:aa):Option (V×aa):=(iV us).bind fun (x,u)=>x.gH.bind fun x=>(listOf σ u).bind fun l=>(strsOf l).bind fun ys=>if (ys.map (·.length)).sum+ys.length*x.length≤16777216 then some (.str (Txt.join x ys),σ) else none
noncomputable def BW(us:List V)(σ:aa):Option (V×aa):=(iV us).bind fun (x,y)=>x.gH.bind fun x=>y.gH.bind fun y=>if (y.length==0)=false∧x.length+2≤sizeLine then some (.lst ((Txt.split x y).map V.str),σ) else none
noncomputable def V.xh:V→Option Addr
 | .base a=>some a
 | _=>Option.none
theorem JH{u:V}{n:Addr}(h:u.xh=some n):u=.base n:=by cases u with
 | base=>exact congrArg V.base (Option.some.inj h)
 | _=>exact nn h
noncomputable def BL(T:Tables)(us:List V)(σ:aa):Option (V×aa):=(v7 us).bind fun (d,i,y)=>d.xh.bind fun d=>i.int?.bind fun i=>y.gH.bind fun y=>if d=T.flags then some (.str ((T.x9.lookup i).getD y),σ) else none
noncomputable def V.pN:V→Bool
 | .aE _ _=>true
 | _=>false
theorem K2{u:V}(h:u.pN=true):∃S l,u=.aE S l:=by cases u with
 | aE S l=>exact⟨S,l,rfl⟩
 | _=>exact ff h
noncomputable def BV(C:Calls)(us:List V)(cv:V)(σ:aa):Option (V×aa):=if cv.pN then (one? us).bind fun u=>(listOf σ u).bind fun l=>vR C cv l σ else none
noncomputable def BU(T:Tables)(id:String)(us:List V)(σ:aa):Option (V×aa):=
 if id="len" then xr us σ else if id="sum" then BX us σ else if id="hex" then BN us σ else if id="iter" then BO us σ else if id="next" then BR us σ
 else if id="list.append" then xj us σ else if id="list.insert" then xq us σ else if id="list.count" then BK us σ else if id="str.join" then BP us σ
 else if id="str.split" then BW us σ else if id="dict.get" then BL T us σ else none
noncomputable def BQ(T:Tables)(C:Calls)(id:String)(us:List V)(key:Option V)(σ:aa):Option (V×aa):=
 match key with
 | some cv=>if id="sorted" then BV C us cv σ else none
 | none=>BU T id us σ
noncomputable def HF(name:String)(us:List V)(σ:aa):Option (V×aa):=
 if name="list" then (one? us).bind fun u=>(listOf σ u).bind fun l=>if V.bD l∧l.length≤sizeLine then some (.loc σ.length,σ++[.list l]) else none
 else if name="str" then (one? us).bind fun u=>(qK σ u).map fun (_,t)=>(.str t,σ)
 else none
noncomputable def j7(T:Tables)(C:Calls)(fv:V)(us:List V)(key:Option V)(σ:aa):Option (V×aa):=match fv with
 | .bi id=>BQ T C id us key σ
 | .ty name=>if key.isNone then HF name us σ else none
 | .base a=>match T.fns.find? fun f=>f.addr==a with
  | some f=>uv C T.fuel f us key σ
  | none=>if key.isNone then (if a=T.acc then (one? us).bind fun u=>u.int?.bind fun i=>if i.natAbs≤1024 then some (.loc σ.length,σ++[.acc i []]) else none else tD T a us σ) else none
 | .aE S caps=>if key.isNone then xJ C T.fuel S caps us σ else none
 | _=>none
noncomputable def refOf(v:Value):Addr:=rec (motive:=fun Z=>Addr) 0 0 0 (fun Z=>0) (fun Z Z=>0) (fun Z Z=>0) (fun Z Z=>0) (fun Z Z=>0) (fun Z=>0) (fun Z=>0) (fun a=>a) v
noncomputable def zA(T:Tables)(me:ao):Expr→Option V:=AS none fun ps b sc Z=>if me.code==.ref (refOf me.code) then if T.lams.any (fun p=>p.1==refOf me.code&&p.2==me.qual) then zB me ps b sc else none else none
noncomputable def xF(T:Tables):Nat→Calls
 | 0=>{ call:=fun Z Z Z Z=>none,glob:=fun x=>T.glob.lookup x,res:=vK T,lam:=zA T }
 | k+1=>{ call:=j7 T (xF T k),glob:=fun x=>T.glob.lookup x,res:=vK T,lam:=zA T }
noncomputable def m6:V→Option Value
 | .base a=>some (.ref a)
 | .bi id=>some (.builtin id)
 | .ty n=>some (.type n)
 | _=>none
structure qF(X:Ctx)(T:Tables)(k:Nat):Prop where
 own:∀{a:Addr} {us:List V} {σ:aa} {u:V} {σ':aa},tD T a us σ=some (u,σ')→∀{A:Around} {E:Value→Shared→Prop} {ρ:aB} {s:Shared} {vs:List Value},
  aT (k+1) A→aq X s→Rel X ρ σ s.heap→(∀a∈ρ.priv,bX s.heap a)→aC X ρ s.heap vs us→wpAny (model P X.w) A (call (.ref a) vs []) (aD X ρ s σ' u) E s
 make:∀{i:Int},i.natAbs≤1024→∀{A:Around} {E:Value→Shared→Prop} {ρ:aB} {σ:aa} {s:Shared} {t:Tok},aT (k+1) A→aq X s→Rel X ρ σ s.heap→(∀a∈ρ.priv,bX s.heap a)→
  wpAny (model P X.w) A (call (.ref T.acc) [.int i t] []) (aD X ρ s (σ++[.acc i []]) (.loc σ.length)) E s
 len:∀{σ:aa} {u:V} {i:Int} {x:Str},qK σ u=some (i,x)→∀{A:Around} {E:Value→Shared→Prop} {ρ:aB} {s:Shared} {v:Value},aT (k+1) A→aq X s→Rel X ρ σ s.heap→(∀a∈ρ.priv,bX s.heap a)→VR X ρ s.heap v u→
  wpAny (model P X.w) A (call (.builtin "len") [v] []) (aD X ρ s σ (.int (i+x.length))) E s
 text:∀{σ:aa} {u:V} {i:Int} {x:Str},qK σ u=some (i,x)→∀{A:Around} {E:Value→Shared→Prop} {ρ:aB} {s:Shared} {v:Value},aT (k+1) A→aq X s→Rel X ρ σ s.heap→(∀a∈ρ.priv,bX s.heap a)→VR X ρ s.heap v u→
  wpAny (model P X.w) A (call (.type "str") [v] []) (aD X ρ s σ (.str x)) E s
structure j3(X:Ctx)(T:Tables):Prop where
 fM:bI X
 fns:∀f∈T.fns,∃o fd,gJ X f o fd
 glob:∀x u,T.glob.lookup x=some u→(∃v,m6 u=some v∧(∀a,u=.base a→a<nB)∧∀h,Keeps X h→∀env:Env,env.globals=mainGlobals→env.builtins=builtinsNs→Looks (model P X.w) h (loadGlobal env x) v)
 flags:wD X T.flags T.x9
 lams:∀p∈T.lams,∃Tb mg,wI X (.ref p.1) p.2 p.1 Tb mg
 keep:∀a,a=T.acc∨a=T.push∨a=T.iO∨a=T.pop∨a=T.count→∀h,Keeps X h→∃kp,(kp=Keeper.frame∨kp=Keeper.machine∨kp=Keeper.boundFrame)∧Looks (model P X.w) h (keeperOf (.ref a)) kp
 meth:∀(h:Heap),Keeps X h→∀{a d:Addr} {init:Int} {vs:Array Value},AccAt h a d init vs→∀{name:Str} {f:Addr},(name=("push":Str)∧f=T.push)∨(name=("pop_from":Str)∧f=T.iO)∨(name=("pop":Str)∧f=T.pop)∨(name=("part_count":Str)∧f=T.count)→
  ∀{A:Around} {E:Value→Shared→Prop} {s:Shared} {pl:Sem Bool} {Q:Value×List Value→Shared→Prop},s.heap=h→Q (.ref f,[.ref a]) s→wpAny (model P X.w) A (getMethod (.ref a) name pl) Q E s
 small:T.push<nB∧T.iO<nB∧T.pop<nB∧T.count<nB
 dict:∃o,X.hB.get? T.flags=some o∧o.cls=.type "dict"∧o.dict=none
end
section
variable{ρ:aB}{h:Heap}{u fv ov:V}{v:Value}{M:Model}{a:Addr}{A:Around}{E:Value→Shared→Prop}{s:Shared}{pl:Sem Bool}{Q:Value×List Value→Shared→Prop}{name:Str}{σ:aa}
variable{X:Ctx}{C:Calls}{k n:Nat}{T:Tables}
theorem VR.SE(h1:m6 u=some v)(h2:∀a,u=.base a→a<nB):VR X ρ h v u:=by
 cases u with
 | base=>obtain rfl:=Option.some.inj h1;exact .base _ (h2 _ rfl)
 | bi=>obtain rfl:=Option.some.inj h1;exact .bi _
 | ty=>obtain rfl:=Option.some.inj h1;exact .ty _
 | _=>exact nn h1
theorem Ng(h1:m6 u=some v):u.plain=true:=by
 cases u with
 | base=>rfl
 | bi=>rfl
 | ty=>rfl
 | _=>exact nn h1
theorem u6{f:Value}(hf:∀a,f≠.ref a):Looks M h (keeperOf f) .machine:=by
 refine Looks.of_pure ?_;cases f<;>first|rfl|exact absurd rfl (hf _)
theorem r8{o:Obj}{fd:FuncData}(e:h.get? a=some o)(d:o.data=.func fd):Looks M h (keeperOf (.ref a)) .frame:=by
 intro A Q E s k q;unfold keeperOf;refine wpAny_bind (wpAny_load (k _ _ e) ?_);rw [d];exact wpAny_pure q
theorem zE{vs:Array Value}(p:PL s.heap a vs)(h:rZ name=some fv)
 (hQ:∀f,(∀ρ,VR X ρ s.heap f fv)→Q (f,[.ref a]) s):wpAny (model P X.w) A (getMethod (.ref a) name pl) Q E s:=by
 have ty:=p.is.typeIs;refine aA p ?_;clear p;intro nn e;have hd:∀b,Value.ref a=.ref b→∃o,s.heap.get? b=some o∧o.dict=none:=fun b z=>by cases z;exact⟨_,e,rfl⟩
 replace h:=cJ h;rcases h with⟨hn,h⟩|⟨_,h⟩
 ·subst hn;obtain rfl:=Option.some.inj h;exact getMethod_builtin ty F.plainAttrs_list F.slot_list_append F.type_list_append hd (hQ _ fun Z=>.bi _)
 replace h:=cJ h;rcases h with⟨hn,h⟩|⟨_,h⟩
 ·subst hn;obtain rfl:=Option.some.inj h;exact getMethod_builtin ty F.plainAttrs_list F.slot_list_insert F.type_list_insert hd (hQ _ fun Z=>.bi _)
 ·refine bJ h ?_;clear h;intro hn h;subst hn;subst h;exact getMethod_builtin ty F.plainAttrs_list F.slot_list_count F.type_list_count hd (hQ _ fun Z=>.bi _)
set_option tactic.hygienic true in
set_option maxRecDepth 100000 in
theorem GJ(B:j3 X T)(h:vK T ov name σ=some fv)
 (Am:aq X s) (R:Rel X ρ σ s.heap) (r:VR X ρ s.heap v ov) (hQ:∀f t,VR X ρ s.heap f fv→Q (f,[v]) { s with toks:=t }):wpAny (model P X.w) A (getMethod v name pl) Q E s:=by
 cases ov with
 | str x=>
  refine aA r.inv ?_;rintro t rfl;replace h:=cJ (show (if name=("join":Str) then some (V.bi "str.join") else if name=("split":Str) then some (.bi "str.split") else none)=some fv from h);rcases h with⟨hn,h⟩|⟨_,h⟩
  ·subst hn;obtain rfl:=Option.some.inj h;have q:Q (.builtin "str.join",[.str x t]) s:=hQ _ s.toks (.bi _);exact getMethod_builtin (typeIs_str s x t) F.plainAttrs_str F.slot_str_join F.type_str_join (fun a z=>noConfusion z) q
  ·refine bJ h ?_;clear h;intro hn h;subst hn;subst h;have q:Q (.builtin "str.split",[.str x t]) s:=hQ _ s.toks (.bi _);exact getMethod_builtin (typeIs_str s x t) F.plainAttrs_str F.slot_str_split F.type_str_split (fun a z=>noConfusion z) q
 | base a=>
  refine au r.inv ?_;rintro rfl ha;replace h:=jO (show (if a=T.flags∧name=("get":Str) then some (V.bi "dict.get") else none)=some fv from h);refine au h ?_;clear h;intro hn h
  refine au hn ?_;clear hn;rintro rfl rfl;subst h;refine bQ B.dict ?_;intro o e c d;have e':=Am.keep _ _ e B.flags.nt;exact getMethod_builtin (T:="dict") ⟨_,e',c⟩ F.plainAttrs_dict F.slot_dict_get F.type_dict_get (fun b z=>by cases z;exact⟨_,e',d⟩) (hQ _ s.toks (.bi _))
 | lst l=>refine bV r.inv ?_;rintro a vs rfl p _ _;exact zE p h fun f hf=>hQ f s.toks (hf ρ)
 | loc m=>
  refine aj r.inv ?_;rintro p rfl hm;refine aH (show (σ[m]?).bind (zR T name)=some fv from h) ?_;intro mo hmo h;cases R.obj m p mo hm hmo with
  | list pl rs hp=>exact zE pl h fun f hf=>hQ f s.toks (hf ρ)
  | iter=>exact nn h
  | acc at' rs hp=>
   rename_i a d init vs l;have bm:∀f,some (V.base f)=some fv→((name=("push":Str)∧f=T.push)∨(name=("pop_from":Str)∧f=T.iO)∨(name=("pop":Str)∧f=T.pop)∨(name=("part_count":Str)∧f=T.count))→f<nB→wpAny (model P X.w) A (getMethod (.ref a) name pl) Q E s:=fun f hv hf hB=>by
    obtain rfl:=Option.some.inj hv;exact B.meth _ Am.keeps at' hf rfl (hQ _ s.toks (.base _ hB))
   refine gQ B.small ?_;intro s1 s2 s3 s4;replace h:=cJ (show Bm T name=some fv from h);rcases h with⟨hn,h⟩|⟨_,h⟩
   ·exact bm _ h (.inl ⟨hn,rfl⟩) s1
   replace h:=cJ h;rcases h with⟨hn,h⟩|⟨_,h⟩
   ·exact bm _ h (.inr (.inl ⟨hn,rfl⟩)) s2
   replace h:=cJ h;rcases h with⟨hn,h⟩|⟨_,h⟩
   ·exact bm _ h (.inr (.inr (.inl ⟨hn,rfl⟩))) s3
   ·refine bJ h ?_;clear h;intro hn h;exact bm _ (congrArg some h) (.inr (.inr (.inr ⟨hn,rfl⟩))) s4
 | _=>exact nn h
noncomputable def rU:V→Bool
 | .bi _=>true
 | .base _=>true
 | _=>false
theorem Qc{v:V}(h:rU v=true):(∃id,v=.bi id)∨∃a,v=.base a:=by cases v with
 | bi=>exact .inl ⟨_,rfl⟩
 | base=>exact .inr ⟨_,rfl⟩
 | _=>exact ff h
theorem jP{c:Prop}[Decidable c]{x:V}{z:Option V}{y:V}(h:(if c then some x else z)=some y)(hx:rU x=true)(hz:z=some y→rU y=true):rU y=true:=by
 replace h:=cJ h;rcases h with⟨_,h⟩|⟨_,h⟩
 ·obtain rfl:=Option.some.inj h;exact hx
 ·exact hz h
theorem E9(h:rZ name=some fv):rU fv=true:=jP h rfl fun h=>jP h rfl fun h=>jP h rfl nn
theorem GI(h:vK T ov name σ=some fv):(∃id,fv=.bi id)∨∃a,fv=.base a:=by
 refine Qc ?_;cases ov with
 | str=>exact jP h rfl fun h=>jP h rfl nn
 | base=>exact jP h rfl nn
 | lst=>exact E9 h
 | loc m=>
  refine aH (show (σ[m]?).bind (zR T name)=some fv from h) ?_;intro mo _ h;cases mo with
  | list=>exact E9 h
  | iter=>exact nn h
  | acc=>exact jP h rfl fun h=>jP h rfl fun h=>jP h rfl fun h=>jP h rfl nn
 | _=>exact nn h
theorem DH(B:j3 X T){x:Str}(h:T.glob.lookup x=some u):u.plain=true∧∀{env:Env} {A:Around} {E:Value→Shared→Prop} {ρ:aB} {s:Shared} {Q:Value→Shared→Prop},env.globals=mainGlobals→env.builtins=builtinsNs→aq X s→
 (∀v,VR X ρ s.heap v u→Q v s)→wpAny (model P X.w) A (loadGlobal env x) Q E s:=by
 refine bQ (B.glob x u h) ?_;intro v h1 h2 h3;exact⟨Ng h1,fun hg hb Am hQ=>(h3 _ Am.keeps _ hg hb).here (hQ v (VR.SE h1 h2))⟩
theorem E5(B:j3 X T){me:ao}{e:Expr}(h:zA T me e=some u){env:Env}(Am:aq X s)(R:Rel X ρ σ s.heap)(H:b5 X ρ env me s.heap) :
 wpAny (model P X.w) A (eval e env) (aD X ρ s σ u) E s:=by
 obtain⟨ps,b,sc,q,rfl,h⟩:=Pb nS h;refine bZ h ?_;clear h;intro hc h;refine bZ h ?_;clear h;intro ha h;refine aj (any_eq_true.mp ha) ?_;intro p hp hpp;simp only [and_eq_true,beq_iff_eq] at hpp;refine fq (B.lams p hp) ?_;intro Tb mg L;rw [hpp.1,hpp.2,←eq_of_beq hc] at L;exact QF L h Am R H
end
section
variable{ρ:aB}{h:Heap}{vs:List Value}{us:List V}{u u' fv:V}{key:Option V}{σ σ':aa}{A:Around}{E:Value→Shared→Prop}{s:Shared}{kw:List (Str×Value)}{f:Value}{r:V×aa}
variable{X:Ctx}{C:Calls}{k n:Nat}{T:Tables}
theorem ju(e:one? us=some u)(rs:aC X ρ h vs us):∃v,vs=[v]∧VR X ρ h v u:=by
 obtain rfl:=jv e;refine bw rs.inv ?_;rintro v ws rfl r rs;obtain rfl:=rs.nil_inv;exact⟨v,rfl,r⟩
theorem qA(e:iV us=some (u,u'))(rs:aC X ρ h vs us):∃v v',vs=[v,v']∧VR X ρ h v u∧VR X ρ h v' u':=by
 obtain rfl:=qB e;refine bw rs.inv ?_;rintro v ws rfl r rs;refine aj (ju rfl rs) ?_;rintro v' rfl r';exact⟨v,v',rfl,r,r'⟩
theorem Hz{w:V}(e:v7 us=some (u,u',w))(rs:aC X ρ h vs us):∃v v' v'',vs=[v,v',v'']∧VR X ρ h v u∧VR X ρ h v' u'∧VR X ρ h v'' w:=by
 obtain rfl:=VS e;refine bw rs.inv ?_;rintro v ws rfl r rs;refine bw (qA rfl rs) ?_;rintro v' v'' rfl r' r'';exact⟨v,v',v'',rfl,r,r',r''⟩
section
variable{A:Around}{E:Value→Shared→Prop}{ρ:aB}{s:Shared}{σ σ':aa}{us:List V}{u:V}{vs:List Value}
theorem SP(AO:qF X T k)(h:xr us σ=some (u,σ'))(Rm:aT (k+1) A)(Am:aq X s)(R:Rel X ρ σ s.heap)(bg:∀a∈ρ.priv,bX s.heap a)(rs:aC X ρ s.heap vs us):wpAny (model P X.w) A (call (.builtin "len") vs []) (aD X ρ s σ' u) E s:=by
 refine aH h ?_;clear h;intro x e1 h;refine aj (ju e1 rs) ?_;rintro v rfl r;cases hx:x.gH with
 | some y=>rw [hx] at h;refine bJ h ?_;clear h;intro hn h;refine cB h ?_;obtain rfl:=iU hx;refine aA r.inv ?_;rintro t rfl;exact len_str (by lia) (aD.here Am R (aM.refl _) (.int _ _))
 | none=>
  rw [hx] at h;replace h:lenOf x σ=some (u,σ'):=h;unfold lenOf at h;cases hl:listOf σ x with
  | some l=>rw [hl] at h;refine bJ h ?_;clear h;intro hn h;refine cB h ?_;exact JT Am R r hl hn
  | none=>rw [hl] at h;refine jS h ?_;clear h;intro i y e h;refine cB h ?_;exact AO.len e Rm Am R bg r
theorem SS(h:BX us σ=some (u,σ'))(Rm:aT (k+1) A)(Am:aq X s)(R:Rel X ρ σ s.heap)(rs:aC X ρ s.heap vs us):wpAny (model P X.w) A (call (.builtin "sum") vs []) (aD X ρ s σ' u) E s:=by
 refine aH h ?_;clear h;intro x e1 h;refine aj (ju e1 rs) ?_;rintro v rfl r;refine cps fun Z kk=>?_;refine aH h ?_;clear h;intro l hl h;refine aH h ?_;clear h;intro ns hn h;refine bJ h ?_;clear h;intro hf h;refine kk ?_;clear kk;refine cB h ?_;exact J3 Rm.handled Am R r hl hn hf
theorem SK(h:BN us σ=some (u,σ'))(Am:aq X s)(R:Rel X ρ σ s.heap)(rs:aC X ρ s.heap vs us):wpAny (model P X.w) A (call (.builtin "hex") vs []) (aD X ρ s σ' u) E s:=by
 refine aH h ?_;clear h;intro x e1 h;refine aj (ju e1 rs) ?_;rintro v rfl r;refine aH h ?_;clear h;intro i e2 h;refine bJ h ?_;clear h;intro hf h;refine cB h ?_;obtain rfl:=eu e2;refine aA r.inv ?_;rintro t rfl;exact JP Am R hf
theorem SN(h:BO us σ=some (u,σ'))(Am:aq X s)(R:Rel X ρ σ s.heap)(rs:aC X ρ s.heap vs us):wpAny (model P X.w) A (call (.builtin "iter") vs []) (aD X ρ s σ' u) E s:=by
 refine aH h ?_;clear h;intro x e1 h;refine aj (ju e1 rs) ?_;rintro v rfl r;refine aH h ?_;clear h;intro l e2 h;refine bJ h ?_;clear h;intro hp h;refine cB h ?_;obtain rfl:=u9 e2;exact JR Am R r hp
theorem SQ(Fi:bI X)(h:BR us σ=some (u,σ'))(Am:aq X s)(R:Rel X ρ σ s.heap)(rs:aC X ρ s.heap vs us):wpAny (model P X.w) A (call (.builtin "next") vs []) (aD X ρ s σ' u) E s:=by
 refine aH h ?_;clear h;intro x e1 h;refine aj (ju e1 rs) ?_;rintro v rfl r;refine cps fun Z kk=>?_;refine aH h ?_;clear h;intro m e2 h;refine aH h ?_;clear h;intro o e3 h;refine aY h ?_;clear h;intro y l e4 h;refine kk ?_;clear kk;refine cB (Option.some.inj h) ?_;obtain rfl:=pU e2;obtain rfl:=R9 e4;exact JZ Fi Am R r e3
theorem SH(Fi:bI X)(h:xj us σ=some (u,σ'))(Am:aq X s)(R:Rel X ρ σ s.heap)(rs:aC X ρ s.heap vs us):wpAny (model P X.w) A (call (.builtin "list.append") vs []) (aD X ρ s σ' u) E s:=by
 refine aY h ?_;clear h;intro x y e1 h;refine bw (qA e1 rs) ?_;rintro v w rfl r r2;refine cps fun Z kk=>?_;refine aH h ?_;clear h;intro m e2 h;refine aH h ?_;clear h;intro l e3 h;refine bJ h ?_;clear h;intro hc h;refine kk ?_;clear kk;refine cB h ?_;obtain rfl:=pU e2;exact JM Fi Am R r r2 (rY e3) hc.1 hc.2
theorem SM(Fi:bI X)(h:xq us σ=some (u,σ'))(Am:aq X s)(R:Rel X ρ σ s.heap)(rs:aC X ρ s.heap vs us):wpAny (model P X.w) A (call (.builtin "list.insert") vs []) (aD X ρ s σ' u) E s:=by
 refine fL h ?_;clear h;intro x i y e1 h;refine cY (Hz e1 rs) ?_;rintro v w w' rfl r r2 r3;refine cps fun Z kk=>?_;refine aH h ?_;clear h;intro m e2 h;refine aH h ?_;clear h;intro i e4 h;refine aH h ?_;clear h;intro l e3 h;refine bJ h ?_;clear h;intro hc h;refine kk ?_;clear kk;refine cB h ?_;obtain rfl:=pU e2;obtain rfl:=eu e4;refine aA r2.inv ?_;rintro t rfl;exact JQ Fi Am R r r3 (rY e3) hc.1 hc.2.1 hc.2.2.1 hc.2.2.2
theorem SI(h:BK us σ=some (u,σ'))(Am:aq X s)(R:Rel X ρ σ s.heap)(rs:aC X ρ s.heap vs us):wpAny (model P X.w) A (call (.builtin "list.count") vs []) (aD X ρ s σ' u) E s:=by
 refine aY h ?_;clear h;intro x y e1 h;refine bw (qA e1 rs) ?_;rintro v w rfl r r2;refine cps fun Z kk=>?_;refine aH h ?_;clear h;intro i e2 h;refine aH h ?_;clear h;intro l hl h;refine bW h ?_;clear h;intro ns hn h;refine kk ?_;clear kk;refine cB h ?_;obtain rfl:=eu e2;refine aA r2.inv ?_;rintro t rfl;exact JN Am R r hl hn
theorem SO(h:BP us σ=some (u,σ'))(Am:aq X s)(R:Rel X ρ σ s.heap)(rs:aC X ρ s.heap vs us):wpAny (model P X.w) A (call (.builtin "str.join") vs []) (aD X ρ s σ' u) E s:=by
 refine aY h ?_;clear h;intro x y e1 h;refine bw (qA e1 rs) ?_;rintro v w rfl r r2;refine cps fun Z kk=>?_;refine aH h ?_;clear h;intro x' e2 h;refine aH h ?_;clear h;intro l hl h;refine aH h ?_;clear h;intro ys hn h;refine bJ h ?_;clear h;intro hs h;refine kk ?_;clear kk;refine cB h ?_;obtain rfl:=iU e2;refine aA r.inv ?_;rintro t rfl;exact JS Am R r2 hl hn hs
theorem SR(h:BW us σ=some (u,σ'))(Am:aq X s)(R:Rel X ρ σ s.heap)(rs:aC X ρ s.heap vs us):wpAny (model P X.w) A (call (.builtin "str.split") vs []) (aD X ρ s σ' u) E s:=by
 refine aY h ?_;clear h;intro x y e1 h;refine bw (qA e1 rs) ?_;rintro v w rfl r r2;refine cps fun Z kk=>?_;refine aH h ?_;clear h;intro x' e2 h;refine aH h ?_;clear h;intro y' e3 h;refine bJ h ?_;clear h;intro hs h;refine kk ?_;clear kk;refine cB h ?_;obtain rfl:=iU e2;obtain rfl:=iU e3;refine aA r.inv ?_;rintro t rfl;refine aA r2.inv ?_;rintro t' rfl;exact J2 Am R hs.1 hs.2
theorem SJ(B:j3 X T)(h:BL T us σ=some (u,σ'))(Am:aq X s)(R:Rel X ρ σ s.heap)(rs:aC X ρ s.heap vs us):wpAny (model P X.w) A (call (.builtin "dict.get") vs []) (aD X ρ s σ' u) E s:=by
 refine fL h ?_;clear h;intro x y z e1 h;refine cY (Hz e1 rs) ?_;rintro v w w' rfl r r2 r3;refine cps fun Z kk=>?_;refine aH h ?_;clear h;intro d e2 h;refine aH h ?_;clear h;intro i e3 h;refine aH h ?_;clear h;intro y' e4 h;refine bJ h ?_;clear h;intro hd h;refine kk ?_;clear kk;refine cB h ?_;obtain rfl:=JH e2;obtain rfl:=eu e3;obtain rfl:=iU e4;subst hd;refine au r.inv ?_;rintro rfl _;refine aA r2.inv ?_;rintro t rfl;refine aA r3.inv ?_;rintro t' rfl;exact JO Am R B.flags
end
theorem J0(B:j3 X T)(AO:qF X T k)(CO:bL X C k){id:String}(h:BQ T C id us key σ=some (u,σ'))
 (Rm:aT (k+1) A) (Am:aq X s) (R:Rel X ρ σ s.heap) (bg:∀a∈ρ.priv,bX s.heap a) (rs:aC X ρ s.heap vs us) (rk:j6 X ρ s.heap kw key):wpAny (model P X.w) A (call (.builtin id) vs kw) (aD X ρ s σ' u) E s:=by
 cases key with
 | some cv=>
  obtain⟨h1,h2⟩|⟨v,Lm,rfl,h2,rc⟩:=rk
  ·cases h2
  obtain rfl:=Option.some.inj h2;replace h:=nI (show (if id="sorted" then BV C us cv σ else none)=some (u,σ') from h);refine au h ?_;clear h;intro hid h
  subst hid;refine cps fun Z kk=>?_;refine bZ h ?_;clear h;intro hcl h;refine aH h ?_;clear h;intro x e1 h;refine aH h ?_;clear h;intro l hl h;refine kk ?_;clear kk;refine aj (ju e1 rs) ?_;rintro w rfl r;refine fq (K2 hcl) ?_;rintro S caps rfl;exact J1 B.fM CO Rm Am R bg rc r hl h
 | none=>
  obtain rfl:kw=[]:=by
   obtain⟨h1,_⟩|⟨_,_,_,h1,_⟩:=rk
   ·exact h1
   ·cases h1
  replace h:BU T id us σ=some (u,σ'):=h;replace h:=cJ h;rcases h with⟨rfl,h⟩|⟨_,h⟩
  ·exact SP AO h Rm Am R bg rs
  replace h:=cJ h;rcases h with⟨rfl,h⟩|⟨_,h⟩
  ·exact SS h Rm Am R rs
  replace h:=cJ h;rcases h with⟨rfl,h⟩|⟨_,h⟩
  ·exact SK h Am R rs
  replace h:=cJ h;rcases h with⟨rfl,h⟩|⟨_,h⟩
  ·exact SN h Am R rs
  replace h:=cJ h;rcases h with⟨rfl,h⟩|⟨_,h⟩
  ·exact SQ B.fM h Am R rs
  replace h:=cJ h;rcases h with⟨rfl,h⟩|⟨_,h⟩
  ·exact SH B.fM h Am R rs
  replace h:=cJ h;rcases h with⟨rfl,h⟩|⟨_,h⟩
  ·exact SM B.fM h Am R rs
  replace h:=cJ h;rcases h with⟨rfl,h⟩|⟨_,h⟩
  ·exact SI h Am R rs
  replace h:=cJ h;rcases h with⟨rfl,h⟩|⟨_,h⟩
  ·exact SO h Am R rs
  replace h:=cJ h;rcases h with⟨rfl,h⟩|⟨_,h⟩
  ·exact SR h Am R rs
  ·refine bZ h ?_;rintro rfl h;exact SJ B h Am R rs
theorem KL(B:j3 X T)(AO:qF X T k)(CO:bL X C k)(h:j7 T C fv us key σ=some (u,σ'))
 (Rm:aT (k+1) A) (Am:aq X s) (R:Rel X ρ σ s.heap) (bg:∀a∈ρ.priv,bX s.heap a) (rf:VR X ρ s.heap f fv) (rs:aC X ρ s.heap vs us) (rk:j6 X ρ s.heap kw key):wpAny (model P X.w) A (call f vs kw) (aD X ρ s σ' u) E s:=by
 have zN:key.isNone=true→kw=[]:=by
  intro hk;obtain⟨h1,_⟩|⟨v,Lm,h1,rfl,_⟩:=rk
  ·exact h1
  ·cases hk
 cases fv with
 | bi id=>obtain rfl:=rf.inv;exact J0 B AO CO h Rm Am R bg rs rk
 | ty name=>
  obtain rfl:=rf.inv;replace h:=nI (show (if key.isNone then HF name us σ else none)=some (u,σ') from h);refine au h ?_;clear h;intro hk h
  obtain rfl:=zN hk;replace h:=cJ h;rcases h with⟨rfl,h⟩|⟨_,h⟩
  ·refine cps fun Z kk=>?_;refine aH h ?_;clear h;intro x e1 h;refine aH h ?_;clear h;intro l hl h;refine bJ h ?_;clear h;intro hc h;refine kk ?_;clear kk;refine cB h ?_;refine aj (ju e1 rs) ?_;rintro v rfl r;exact JU Am R r hl hc.1 hc.2
  ·refine bZ h ?_;clear h;intro hn h;subst hn;refine aH h ?_;clear h;intro x e1 h;refine jS h ?_;clear h;intro i y e h;refine cB h ?_;refine aj (ju e1 rs) ?_;rintro v rfl r;exact AO.text e Rm Am R bg r
 | base a=>
  refine au rf.inv ?_;rintro rfl _;unfold j7 at h;dsimp only at h;cases hf:T.fns.find? fun f=>f.addr==a with
  | some f=>rw [hf] at h;have ha:f.addr=a:=eq_of_beq (List.find?_some hf :);subst ha;refine fq (B.fns f (List.mem_of_find?_eq_some hf)) ?_;intro o fd FO;exact MX B.fM CO FO h Rm Am R bg rs rk
  | none=>
   rw [hf] at h;refine bZ h ?_;clear h;intro hk h;obtain rfl:=zN hk;replace h:=cJ h;rcases h with⟨rfl,h⟩|⟨_,h⟩
   ·refine cps fun Z kk=>?_;refine aH h ?_;clear h;intro x e1 h;refine aH h ?_;clear h;intro i e2 h;refine bJ h ?_;clear h;intro hi h;refine kk ?_;clear kk;refine cB h ?_;refine aj (ju e1 rs) ?_;rintro v rfl r;obtain rfl:=eu e2;refine aA r.inv ?_;rintro t rfl;exact AO.make hi Rm Am R bg
   ·exact AO.own h Rm Am R bg rs
 | aE S caps=>
  replace h:=nI (show (if key.isNone then xJ C T.fuel S caps us σ else none)=some (u,σ') from h);refine au h ?_;clear h;intro hk h
  obtain rfl:=zN hk;exact K3 B.fM CO h Rm Am R bg rf rs
 | _=>exact nn h
theorem Ih{a:Addr}(h:tD T a us σ=some r):a=T.push∨a=T.iO∨a=T.pop∨a=T.count:=by
 cases us with
 | nil=>exact nn h
 | cons o us=>
  refine fL h ?_;clear h;intro m i l _ h;replace h:=cJ h;rcases h with⟨q,_⟩|⟨_,h⟩
  ·exact .inl q
  replace h:=cJ h;rcases h with⟨q,_⟩|⟨_,h⟩
  ·exact .inr (.inl q)
  replace h:=cJ h;rcases h with⟨q,_⟩|⟨_,h⟩
  ·exact .inr (.inr (.inl q))
  ·exact .inr (.inr (.inr (nI h).1))
theorem Qy(B:j3 X T)(h:j7 T C fv us key σ=some r)(Am:aq X s)(rf:VR X ρ s.heap f fv) :
 ∃kp,(kp=Keeper.frame∨kp=Keeper.machine∨kp=Keeper.boundFrame)∧Looks (model P X.w) s.heap (keeperOf f) kp:=by
 cases fv with
 | bi=>obtain rfl:=rf.inv;exact⟨.machine,.inr (.inl rfl),u6 (by intro a;simp)⟩
 | ty=>obtain rfl:=rf.inv;exact⟨.machine,.inr (.inl rfl),u6 (by intro a;simp)⟩
 | base a=>
  refine au rf.inv ?_;rintro rfl _;unfold j7 at h;dsimp only at h;cases hf:T.fns.find? fun f=>f.addr==a with
  | some f=>have ha:f.addr=a:=eq_of_beq (List.find?_some hf :);subst ha;refine fq (B.fns f (List.mem_of_find?_eq_some hf)) ?_;intro o fd FO;exact⟨.frame,.inl rfl,r8 (Am.keep _ _ FO.at' FO.nt) FO.data⟩
  | none=>
   rw [hf] at h;rcases cJ (nI h).2 with⟨q,_⟩|⟨_,h⟩
   ·exact B.keep _ (.inl q) _ Am.keeps
   ·exact B.keep _ (.inr (Ih h)) _ Am.keeps
 | aE S caps=>refine cY rf.inv ?_;rintro a qV os rfl CL HO RC;obtain⟨o,fd,c,co,cs,m1,d1,_⟩:=CL.fn;exact⟨.frame,.inl rfl,r8 (HO _ m1).1 d1⟩
 | _=>exact nn h
theorem KQ(B:j3 X T)(AO:∀k,qF X T k):∀k,bL X (xF T k) k:=by
 intro k
 induction k with
 | zero=>exact { call:=fun h=>nn h,keep:=fun h=>nn h,glob:=fun h=>DH B h,res:=fun h=>GJ B h,An:=fun h=>GI h,lam:=fun h=>fun {env A E ρ σ s} Z Am R H=>E5 B h Am R H }
 | succ k rc=>exact { call:=fun h=>fun {A E ρ s f vs kw} Rm Am R bg rf rs rk=>KL B (AO k) rc h Rm Am R bg rf rs rk,keep:=fun h=>fun {ρ s f} Am rf=>Qy B h Am rf,glob:=fun h=>DH B h,res:=fun h=>GJ B h,An:=fun h=>GI h,lam:=fun h=>fun {env A E ρ σ s} Z Am R H=>E5 B h Am R H }
end
structure mC where
 params:Arguments
 body:List Stmt
 scope:Scope
noncomputable def HJ(s:Stmt):Option (Str×mC):=if h:s.ctorIdx=0 then Stmt.FunctionDef.elim (motive_2:=fun Z=>Option (Str×mC)) s h fun name args body Z Z Z scope Z Z Z=>some (name,⟨args,body,scope⟩) else none
noncomputable def MV:List (Str×mC):=P.main.body.filterMap HJ
noncomputable def iI(nm:Str):mC:=(MV.lookup nm).getD ⟨⟨[],[],none,[],[],none,[]⟩,[],{ kind:=.function,names:=[],isGenerator:=false,isCoroutine:=false,more:=[] }⟩
noncomputable def fnBody(nm:Str):List Stmt:=(iI nm).body
noncomputable def jV(ps:List Str)(us:List V)(key:Option V):Option (List (Str×V)):=
 if key.isNone&&us.length==ps.length then some (ps.zip us) else none
noncomputable def xm(us:List V)(key:Option V):Option (List (Str×V)):=
 let kv:=key.getD .none
 match us with
 | [a,x]=>some [("a",a),("x",x),("lo",.int 0),("hi",.none),("key",kv)]
 | [a,x,l,h]=>some [("a",a),("x",x),("lo",l),("hi",h),("key",kv)]
 | _=>none
noncomputable def fnOf(nm:Str)(a c:Addr):b9:=
 {addr:=a,name:=nm,body:=(iI nm).body,scope:=(iI nm).scope,code:=.ref c,bind:=jV ((iI nm).params.args.map (·.arg)) }
noncomputable def oO(nm:Str)(a c:Addr):b9:={ fnOf nm a c with bind:=xm }
noncomputable def k9:List b9:=[oO "insort_right" 114 113,oO "bisect_right" 123 122,oO "bisect_left" 132 131,fnOf "pretty_flags" 140 139,fnOf "_parse_varint" 147 146,
 fnOf "_law_marks" 157 156,fnOf "_law_met" 164 163,fnOf "_law_even" 169 168,fnOf "_law_ring" 174 173,fnOf "_law_makers" 179 178,
 fnOf "_law_answer" 184 183,fnOf "_law_other" 191 190,fnOf "_law_pieces" 196 195,fnOf "_law_filled" 201 200,fnOf "_law_taken" 206 205]
noncomputable def um:List (Int×Str):=[(1,"OPTIMIZED"),(2,"NEWLOCALS"),(4,"VARARGS"),(8,"VARKEYWORDS"),(16,"NESTED"),(32,"GENERATOR"),(64,"NOFREE"),(128,"COROUTINE"),(256,"ITERABLE_COROUTINE"),(512,"ASYNC_GENERATOR")]
noncomputable def m7:List (Str×V):=(k9.map fun f=>(f.name,V.base f.addr))++([(ofString "COMPILER_FLAG_NAMES",V.base 133),(ofString "_Accumulator",V.base 101),(ofString "_law_read",V.base 152)]:List (Str×V))++
 (["len","sum","hex","iter","next","sorted"].map fun n=>(ofString n,V.bi n))++(["list","str","range","enumerate"].map fun n=>(ofString n,V.ty n))
noncomputable def TT:Tables:={ fns:=k9,glob:=m7,flags:=133,x9:=um,lams:=[(178,"_law_makers.<locals>."),(190,"_law_other.<locals>.")],acc:=101,push:=45,iO:=53,pop:=61,count:=98,fuel:=100 }
noncomputable def CC(k:Nat):Calls:=xF TT k
section
variable{X:Ctx}{C:Calls}{k n:Nat}{T:Tables}
theorem qL{A:Around}{E:Value→Shared→Prop}{s:Shared}{K:Frag}{x Cl f:Addr}{ox:Obj}{od:Option Obj}{name:Str}{pl:Sem Bool}{Q:Value×List Value→Shared→Prop}(hK:K.In s.heap)(I:InstAt s.heap x ox Cl od)
 (hga:findIn K (.ref Cl) "__getattribute__"=some (some (.builtin "list.__getattribute__"))) (hk:findIn K (.ref Cl) "__getattr__"=some none)
 (hf:findIn K (.ref Cl) name=some (some (.ref f))) (ht:typeIn K (.ref f)=some (.type "function")) (hs:shadowIn od name=some false) (h:Q (.ref f,[.ref x]) s) :
 wpAny (model P X.w) A (getMethod (.ref x) name pl) Q E s:=by
 have hcan:=canon_list_getattribute;unfold getMethod specialOf;refine wpAny_bind (wpAny_bind (I.type.here ((looks_findIn hK hga).here ?_)));dsimp only;rw [hcan,if_neg Bool.false_ne_true];refine wpAny_bind (wpAny_bind (I.type.here ((looks_findIn hK hk).here ?_)));refine wpAny_bind (wpAny_bind (I.type.here ((looks_findIn hK hf).here (wpAny_bind ((looks_typeIn hK ht).here ?_)))));rw [if_neg (by decide+kernel)]
 refine wpAny_bind (wpAny_loadPart I.at_ ?_);have hd:=I.dict;cases e:ox.dict with
 | none=>exact wpAny_bind (wpAny_rule (wpAny_pure h))
 | some dx=>
  cases od with
  | none=>rw [e] at hd;exact hd.elim
  | some o=>rw [e] at hd;refine aj (map_eq_some_iff.mp hs) ?_;intro r a b;refine wpAny_bind (wpAny_bind (wpAny_loadPart hd ?_));rw [nsLook_of a];refine wpAny_pure ?_;rw [b];exact wpAny_bind (wpAny_rule (wpAny_pure h))
theorem AccAt.inst{h:Heap}{a d:Addr}{init:Int}{vs:Array Value}(x:AccAt h a d init vs):∃ox od,InstAt h a ox aN (some od)∧∀name,(name==("_initial_size":Str))=false→shadowIn (some od) name=some false:=by
 obtain⟨nn,t,hh,kt,e1,e2⟩:=x;refine⟨_,_,⟨e1,rfl,rfl,e2⟩,fun name hn=>?_⟩;have h2:(("_initial_size":Str)==name)=false:=by
  rw [beq_eq_false_iff_ne] at hn ⊢;exact Ne.symm hn
 simp [shadowIn,lookIn,Value.isStr,DictEntry.refKey,h2]
end
section
variable{w:World}{id:String}{K:Frag}{x Cl:Addr}{ox:Obj}{od:Option Obj}{Q:Fin→Shared→Prop}
variable{X:Ctx}{C:Calls}{k n:Nat}{T:Tables}
theorem G4:Slot "wrapper_descriptor" "__get__" "wrapper_descriptor.__get__":=.of (owner:="wrapper_descriptor") (n:="__get__") (by rw [typeLookup_type,builtinLookup_eq_fast];kernel_rfl) (by decide+kernel) (by decide+kernel) (by decide+kernel)
 (by first|exact .inl (by decide+kernel)|exact .inr (by decide+kernel)) (by rw [isSubtype_type];kernel_rfl)
theorem GZ:Slot "method_descriptor" "__get__" "method_descriptor.__get__":=.of (owner:="method_descriptor") (n:="__get__") (by rw [typeLookup_type,builtinLookup_eq_fast];kernel_rfl) (by decide+kernel) (by decide+kernel) (by decide+kernel)
 (by first|exact .inl (by decide+kernel)|exact .inr (by decide+kernel)) (by rw [isSubtype_type];kernel_rfl)
theorem LI:entryFor table "wrapper_descriptor.__get__"=some Builtin.«wrapper_descriptor.__get__»:=entryFor_of_tree (by kernel_rfl)
theorem LH:entryFor table "method_descriptor.__get__"=some Builtin.«method_descriptor.__get__»:=entryFor_of_tree (by kernel_rfl)
theorem IU(a b c:Value):argsOk "wrapper_descriptor.__get__" ⟨[a,b,c],[]⟩:=by unfold argsOk;kernel_rfl
theorem IM(a b c:Value):argsOk "method_descriptor.__get__" ⟨[a,b,c],[]⟩:=by unfold argsOk;kernel_rfl
theorem V3:typeOf (.builtin "list.__len__")=pure (.type "wrapper_descriptor"):=by show builtinType _=_;rw [builtinType_eq_fast];kernel_rfl
theorem V2:typeOf (.builtin "list.__init__")=pure (.type "wrapper_descriptor"):=by show builtinType _=_;rw [builtinType_eq_fast];kernel_rfl
section
variable{A:Around}{E:Value→Shared→Prop}{h:Heap}{g:Array GenState}{d:Drawn}{t:Nat}{os:OsState}
theorem Wt(hK:K.In h)(I:InstAt h x ox Cl od)(hm:mroIn K Cl (.type "list")=some true)(ho:".".intercalate (id.cutAt '.').dropLast="list")
 (hq:Q (.done (.ret (.ref h.objs.size))) ⟨h.push { cls:=.type "method-wrapper",data:=.fields #[.builtin id,.ref x] },g,d,t,os⟩) :
 wpAny (model P w) A (Builtin.«wrapper_descriptor.__get__» ⟨[.builtin id,.ref x,.ref Cl],[]⟩) Q E ⟨h,g,d,t,os⟩:=by
 unfold Builtin.«wrapper_descriptor.__get__»
 repeat (first
  | wp_step
  | dsimp only)
 refine wpAny_loadPart I.at_ (wpAny_pure ?_);rw [I.cls,ho];refine (looks_mroIn hK hm).here ?_;refine fH rfl ?_;refine wpAny_pure ?_
 repeat (first
  | wp_step
  | dsimp only)
 exact hq
theorem RJ(hK:K.In h)(I:InstAt h x ox Cl od)(hm:mroIn K Cl (.type "list")=some true)(ho:".".intercalate (id.cutAt '.').dropLast="list")
 (ht:Manifest.toldItsClass.contains id=false)
 (hq:Q (.done (.ret (.ref h.objs.size))) ⟨h.push { cls:=.type "builtin_function_or_method",data:=.fields #[.builtin id,.ref x] },g,d,t,os⟩) :
 wpAny (model P w) A (Builtin.«method_descriptor.__get__» ⟨[.builtin id,.ref x,.ref Cl],[]⟩) Q E ⟨h,g,d,t,os⟩:=by
 unfold Builtin.«method_descriptor.__get__»
 repeat (first
  | (rw [ht])
  | wp_step
  | dsimp only)
 refine wpAny_loadPart I.at_ (wpAny_pure ?_);rw [I.cls,ho];refine (looks_mroIn hK hm).here ?_;refine fH rfl ?_;refine wpAny_pure ?_
 repeat (first
  | wp_step
  | dsimp only)
 exact hq
structure mH(name:Str)(id Ty bound:String):Prop where
 own:∃l,l=[type "list",type "object"]∧∀K:Frag,alongIn K name l=some (some (.builtin id))
 ty:typeOf (.builtin id)=pure (.type Ty)
 get:(Ty="wrapper_descriptor"∧bound="method-wrapper")∨(Ty="method_descriptor"∧bound="builtin_function_or_method"∧Manifest.toldItsClass.contains id=false)
 of:".".intercalate (id.cutAt '.').dropLast="list"
 vg:(name==("__class__":Str))=false
set_option maxHeartbeats 2000000 in
theorem Vw{so D:Addr}{l₀:List Value}{name:Str}{tk:Tok}{Ty bound:String}(LN:mH name id Ty bound)
 (hso:h.get? so=some { cls:=.type "super",dict:=none,data:=.fields #[.ref D,.ref x,.ref Cl],slots:=#[] }) (hno:Looks (model P w) h (opaqueClassAbove (.ref Cl)) none)
 (hC:Looks (model P w) h (mroOf (.ref Cl)) l₀) (hl:(l₀.dropWhile (· != .ref D)).drop 1=[type "list",type "object"]) (hK:K.In h) (I:InstAt h x ox Cl od) (hm:mroIn K Cl (.type "list")=some true) (hxC:x≠Cl)
 (hq:Q (.done (.ret (.ref h.objs.size))) ⟨h.push { cls:=.type bound,data:=.fields #[.builtin id,.ref x] },g,d,t,os⟩) :
 wpAny (model P w) A (Builtin.«super.__getattribute__» ⟨[.ref so,.str name tk],[]⟩) Q E ⟨h,g,d,t,os⟩:=by
 have hne:(Value.ref x==Value.ref Cl)=false:=by simp [hxC]
 have hn:=LN.vg;have hdt:({ cls:=.type "super",dict:=none,data:=.fields #[.ref D,.ref x,.ref Cl],slots:=#[] }:Obj).data=.fields #[.ref D,.ref x,.ref Cl]:=rfl;have f0:(#[.ref D,.ref x,.ref Cl]:Array Value)[0]?=some (.ref D):=rfl;have f1:(#[.ref D,.ref x,.ref Cl]:Array Value)[1]?=some (.ref x):=rfl;have f2:(#[.ref D,.ref x,.ref Cl]:Array Value)[2]?=some (.ref Cl):=rfl;refine aj LN.own ?_;rintro _ rfl ha;unfold Builtin.«super.__getattribute__»;have key:∃gid:String,typeLookup (.type Ty) "__get__"=pure (some (.builtin gid))∧∀(A:Around) (E:Value→Shared→Prop) (Q:Value→Shared→Prop) (a:Value),a=.ref x→Q (.ref h.objs.size) ⟨h.push { cls:=.type bound,data:=.fields #[.builtin id,.ref x] },g,d,t,os⟩→wpAny (model P w) A (call (.builtin gid) [.builtin id,a,.ref Cl] []) Q E ⟨h,g,d,t,os⟩:=by
  rcases LN.get with⟨hT,hb⟩|⟨hT,hb,rK⟩
  ·subst hT hb;exact⟨_,G4.lookup,fun A E Q a e q=>by subst e;exact wpAny_call_entry G4 LN.ty LI (Wt hK I hm LN.of ⟨_,rfl,q⟩) (IU _ _ _)⟩
  ·subst hT hb;exact⟨_,GZ.lookup,fun A E Q a e q=>by subst e;exact wpAny_call_entry GZ LN.ty LH (RJ hK I hm LN.of rK ⟨_,rfl,q⟩) (IM _ _ _)⟩
 refine aj key ?_;clear key;intro gid hlk KH
 repeat (first
  | (with_reducible refine wpAny_field hso hdt f0 ?_)|(with_reducible refine wpAny_field hso hdt f1 ?_)|(with_reducible refine wpAny_field hso hdt f2 ?_)
  | (with_reducible refine ks_wpAny_notOpaque hno ?_)
  | (with_reducible refine Looks.at hC ?_;rw [hl])
  | (refine ks_forIn_along hK (fun Z Z=>rfl) rfl ?_ (ha K))
  | (with_reducible refine wpAny_of_eq LN.ty ?_)
  | (with_reducible refine KH _ _ _ _ (if_neg (by rw [hne];exact Bool.false_ne_true)) ?_)
  | (with_reducible refine⟨_,rfl,?_⟩)
  | (with_reducible refine fH hn ?_)|(with_reducible refine fH hne ?_)
  | wp_step
  | dsimp only
  | (simp only [hn,hne,Bool.or_false,false_eq_true,if_false]))
 exact hq
end
end
section
variable{X:Ctx}{C:Calls}{k n:Nat}{T:Tables}
section
variable{A:Around}{E:Value→Shared→Prop}{h:Heap}{g:Array GenState}{d:Drawn}{t:Nat}{os:OsState}
theorem Vx{w:World}{so D x Cl:Addr}{ox:Obj}{od:Option Obj}{l₀:List Value}{K:Frag}{name:Str}{id Ty bound:String}{pl:Sem Bool}{Q:Value×List Value→Shared→Prop}(LN:mH name id Ty bound)
 (hso:h.get? so=some { cls:=.type "super",dict:=none,data:=.fields #[.ref D,.ref x,.ref Cl],slots:=#[] }) (hno:Looks (model P w) h (opaqueClassAbove (.ref Cl)) none)
 (hC:Looks (model P w) h (mroOf (.ref Cl)) l₀) (hl:(l₀.dropWhile (· != .ref D)).drop 1=[type "list",type "object"]) (hK:K.In h) (I:InstAt h x ox Cl od) (hm:mroIn K Cl (.type "list")=some true) (hxC:x≠Cl)
 (hq:Q (.ref h.objs.size,[]) ⟨h.push { cls:=.type bound,data:=.fields #[.builtin id,.ref x] },g,d,t+1,os⟩) :
 wpAny (model P w) A (getMethod (.ref so) name pl) Q E ⟨h,g,d,t,os⟩:=by
 have hlk:=PySem.F.ks_slot_super_ga.lookup;have hcan:=PySem.F.ks_canon_super_ga;have hT:∀t',(⟨h,g,d,t',os⟩:Shared).TypeIs (.ref so) "super":=fun Z=>⟨_,hso,rfl⟩;unfold getMethod;refine wpAny_bind (wpAny_specialOf (hT _) hlk ?_);show wpAny _ _ (if (Manifest.canonical "super.__getattribute__" != "object.__getattribute__")=true then _ else _) _ _ _
 rw [if_pos hcan];unfold getAttr getAttrBy;refine wpAny_bind (wpAny_bind (wpAny_mkText (wpAny_holding (wpAny_bind (wpAny_typeOf (hT _) (wpAny_bind (wpAny_of_eq hlk ?_)))))));show wpAny _ _ (getAttrByItsOwn (.ref so) (.str name t) (.type "super") (.builtin "super.__getattribute__") true false) _ _ _;unfold getAttrByItsOwn hookBefore callGetattribute boundAndCalled;refine wpAny_bind (wpAny_of_eq (show (if onTheHeap (.type "super") then typeLookup (.type "super") "__getattr__" else pure none)=pure none from rfl) ?_)
 refine wpAny_bind (wpAny_attempt (wpAny_holding ?_));show wpAny _ _ (bindSpecial (.builtin "super.__getattribute__") (.ref so)>>=_) _ _ _;refine wpAny_bind (wpAny_of_eq (PySem.F.ks_slot_super_ga.bind _) ?_);refine wpAny_mono (Q:=fun v s'=>v=.ref h.objs.size∧s'=⟨h.push { cls:=.type bound,data:=.fields #[.builtin id,.ref x] },g,d,t+1,os⟩) (E:=fun Z Z=>False)
  (wpAny_call_entry PySem.F.ks_slot_super_ga (hT _) PySem.F.ks_entry_super_ga (Vw LN hso hno hC hl hK I hm hxC ⟨_,rfl,rfl,rfl⟩) (PySem.F.ks_gaArgs_super _ _)) (fun v s' hv=>?_) fun Z Z z=>z.elim
 refine au hv ?_;clear hv;rintro rfl rfl;exact wpAny_pure (wpAny_pure hq)
theorem xB{w:World}{b x:Addr}{id bound:String}{args:List Value}{R:Result→Shared→Prop}{s:Shared}(hb:s.heap.get? b=some { cls:=.type bound,data:=.fields #[.builtin id,.ref x] })(ht:bound="method-wrapper"∨bound="builtin_function_or_method")
 (OD:(Code.builtin id ⟨.ref x::args,[]⟩).quiet=true) (h:wpAny (model P w) A.in1 (checkBoundCall id ⟨.ref x::args,[]⟩) (fun Z s'=>codeAny (model P w) A (.builtin id ⟨.ref x::args,[]⟩) R s') (fun e s'=>R (.error e) s') s):codeAny (model P w) A (.call (.ref b) ⟨args,[]⟩) R s:=by
 refine codeAny_of_tree ?_;show wpAny (model P w) A.in1 (callAny (.ref b) ⟨args,[]⟩) _ _ s;simp only [callAny];refine wpAny_bind (wpAny_load hb ?_);dsimp only;have h1:((type bound==type "method")||(type bound==type "builtin_function_or_method")||(type bound==type "method-wrapper"))=true:=by
  rcases ht with rfl|rfl<;>decide+kernel
 have h2:(type bound != type "method")=true:=by
  rcases ht with rfl|rfl<;>decide+kernel
 rw [if_pos h1];show wpAny (model P w) A.in1 (if (type bound != type "method")=true then (checkBoundCall id ⟨.ref x::args,[]⟩>>=fun Z=>again (.builtin id ⟨.ref x::args,[]⟩)) else again (.call (.builtin id) ⟨.ref x::args,[]⟩)) _ _ s
 rw [if_pos h2];exact wpAny_bind (wpAny_mono h (fun Z s' h'=>wpAny_pure ⟨OD,h'⟩) fun Z Z e=>e)
end
end
section
variable{w:World}{a:Addr}{o:Obj}{vs:Array Value}{n:Nat}{Q:Fin→Shared→Prop}{x:Value}
section
variable{A:Around}{E:Value→Shared→Prop}{s:Shared}
theorem UZ(e:s.heap.get? a=some o)(d:o.data=.seq vs n)(hn:vs.size<2^20)(hq:∀t k,Q (.done (.ret (.int (vs.size:Int) t))) { s with toks:=k }) :
 wpAny (model P w) A (Builtin.«list.__len__» ⟨[.ref a],[]⟩) Q E s:=by
 unfold Builtin.«list.__len__»;refine wpAny_bind (m:=slotArgs "__len__" 0 _) (wpAny_of_eq (a:=(Value.ref a,([]:List Value))) (by first|rfl|kernel_rfl!) ?_)
 show wpAny _ _ (seqSize a>>=fun n=>retInt n) _ _ s;unfold seqSize;refine wpAny_bind (wpAny_bind (wpAny_loadPart e ?_));rw [d];exact wpAny_pure (wpAny_bind (wpAny_mkInt (wpAny_pure (hq _ _))))
theorem U0(e:s.heap.get? a=some o)(d:o.data=.seq vs n)(h0:vs.back?=some x)(hn:vs.size<2^20)(hq:Q (.done (.ret x)) { s with heap:=s.heap.update a (mapSeq (·.eraseIdxIfInBounds (vs.size - 1))) }) :
 wpAny (model P w) A (Builtin.«list.pop» ⟨[.ref a],[]⟩) Q E s:=by
 have hne:0<vs.size:=by
  rcases Nat.eq_zero_or_pos vs.size with h|h
  ·have:vs=#[]:=Array.eq_empty_of_size_eq_zero h;rw [this] at h0;simp at h0
  ·exact h
 have yE:vs.isEmpty=false:=by
  rw [eq_false_iff];intro hh;rw [Array.isEmpty_iff] at hh;subst hh;exact absurd hne (by decide)
 have hix:seqIndex? (-1) vs.size=some (vs.size - 1):=by
  unfold seqIndex?;have h1:((-1:Int)<0):=by decide
  have h5:((-1:Int)+(vs.size:Int))=((vs.size - 1:Nat):Int):=by rw [Int.add_comm,Int.natCast_sub hne];rfl
  have h2:(0:Int)≤-1+(vs.size:Int):=h5▸natCast_nonneg _;have h3:((-1:Int)+(vs.size:Int)).toNat=vs.size - 1:=by rw [h5];rfl
  have h4:(-1:Int)+(vs.size:Int)<vs.size:=h5▸ofNat_lt.mpr (sub_lt hne (by decide))
  simp only [h1,if_true,h2,h4,decide_true,Bool.and_self,h3]
 have hx:vs[vs.size - 1]?=some x:=by
  rw [Array.back?_eq_getElem?] at h0;exact h0
 unfold Builtin.«list.pop»;refine wpAny_bind (m:=selfAndSome "list.pop" "pop" 0 1 _) (wpAny_of_eq (a:=(Value.ref a,([]:List Value))) (by first|rfl|kernel_rfl!) ?_)
 dsimp only;refine wpAny_bind (wpAny_pure ?_);rw [if_neg (by decide+kernel)]
 refine wpAny_bind (listItems_at e d ?_);rw [if_neg (by rw [yE];decide),hix]
 simp only [bind_some,hx,map_some];refine wpAny_bind (listUpdate_at e d (wpAny_pure hq) (by rw [sizeLine_eq];lia) ?_)
 rw [sizeLine_eq];have h5:(vs.eraseIdxIfInBounds (vs.size - 1)).size≤vs.size:=by
  unfold Array.eraseIdxIfInBounds
  split
  ·rw [Array.size_eraseIdx];exact sub_le _ _
  ·exact le_refl _
 exact le_trans h5 (le_of_lt (lt_of_lt_of_le hn (by decide)))
theorem UW(e:s.heap.get? a=some o)(d:o.data=.seq vs n)(hn:vs.size<2^20)(hq:Q (.done (.ret .none)) { s with heap:=s.heap.update a (mapSeq (·.push x)) }) :
 wpAny (model P w) A (Builtin.«list.append» ⟨[.ref a,x],[]⟩) Q E s:=by
 show wpAny _ _ (updateSeq a (·.push x)>>=fun Z=>ret .none) _ _ s
 exact wpAny_bind (wpAny_updateSeq e d (wpAny_pure hq) )
end
end
section
variable{X:Ctx}{C:Calls}{k n:Nat}{T:Tables}
section
variable{A:Around}{E:Value→Shared→Prop}{s:Shared}{ρ:aB}{σ:aa}
theorem wX(Fi:bI X)(Am:aq X s)(R:Rel X ρ σ s.heap){m:Nat}{a d:Addr}{init:Int}{vs:Array Value}{l:List V}{f:Array Value→Array Value}(hm:ρ.ah[m]?=some (a,d))(ha:AccAt s.heap a d init vs)
 (hr:aC X ρ s.heap (f vs).toList l) (hp:V.bD l=true) :
 Step X ρ ρ s.heap (s.heap.update a (mapSeq f))∧aq X ({ s with heap:=s.heap.update a (mapSeq f) }:Shared)∧Rel X ρ (σ.set m (.acc init l)) (s.heap.update a (mapSeq f)):=by
 obtain⟨nn,t,hh,kt,e1,e2⟩:=ha;have sb:SameBut a s.heap (s.heap.update a (mapSeq f)):=SameBut.update ..;have U:Upd ρ (a,d) m s.heap (s.heap.update a (mapSeq f)):=⟨hm,fun b o e h1 Z=>(sb.2 b h1).trans e,le_of_eq sb.1.symm⟩;obtain⟨n',hm'⟩:∃n',mapSeq f (⟨.ref aN,some d,.seq vs nn,#[]⟩:Obj)=⟨.ref aN,some d,.seq (f vs) n',#[]⟩:=⟨_,rfl⟩;have hda:d≠a:=by
  rintro rfl;have:=e1.symm.trans e2;simp at this
 have S:Step X ρ ρ s.heap (s.heap.update a (mapSeq f)):=U.step;refine⟨S,U.aG (s':={ s with heap:=s.heap.update a (mapSeq f) }) Am Fi R,U.rel (s':={ s with heap:=s.heap.update a (mapSeq f) }) Am R (.acc (vs:=f vs) ⟨n',t,hh,kt,?_,?_⟩ (hr.step Am S) hp)⟩
 ·show (s.heap.update a (mapSeq f)).get? a=_;rw [get?_update_self _ e1 (by rw [hm'];rfl),hm']
 ·exact (sb.2 d hda).trans e2
theorem Ij{K:Frag}{x Cl:Addr}{ox:Obj}{od:Option Obj}{name:Str}{id:String}{pl:Sem Bool}{Q:Value×List Value→Shared→Prop}(hK:K.In s.heap)(I:InstAt s.heap x ox Cl od)
 (hga:findIn K (.ref Cl) "__getattribute__"=some (some (.builtin "list.__getattribute__"))) (hk:findIn K (.ref Cl) "__getattr__"=some none)
 (hf:findIn K (.ref Cl) name=some (some (.builtin id))) (ht:typeOf (.builtin id)=pure (.type "method_descriptor")) (hs:shadowIn od name=some false) (h:Q (.builtin id,[.ref x]) s) :
 wpAny (model P X.w) A (getMethod (.ref x) name pl) Q E s:=by
 have hcan:=canon_list_getattribute;unfold getMethod specialOf;refine wpAny_bind (wpAny_bind (I.type.here ((looks_findIn hK hga).here ?_)));dsimp only;rw [hcan,if_neg Bool.false_ne_true];refine wpAny_bind (wpAny_bind (I.type.here ((looks_findIn hK hk).here ?_)));refine wpAny_bind (wpAny_bind (I.type.here ((looks_findIn hK hf).here (wpAny_bind (wpAny_of_eq ht ?_)))));rw [if_neg (by decide+kernel)]
 refine wpAny_bind (wpAny_loadPart I.at_ ?_);have hd:=I.dict;cases e:ox.dict with
 | none=>exact wpAny_bind (wpAny_rule (wpAny_pure h))
 | some dx=>
  cases od with
  | none=>rw [e] at hd;exact hd.elim
  | some o=>rw [e] at hd;refine aj (map_eq_some_iff.mp hs) ?_;intro r a b;refine wpAny_bind (wpAny_bind (wpAny_loadPart hd ?_));rw [nsLook_of a];refine wpAny_pure ?_;rw [b];exact wpAny_bind (wpAny_rule (wpAny_pure h))
end
end
section
variable{w:World}{id nm:String}{B:Builtin}{K:Frag}{x Cl:Addr}{ox:Obj}{od:Option Obj}{rest:List Value}
variable{X:Ctx}{C:Calls}{k n:Nat}{T:Tables}
structure mG(id nm:String)(B:Builtin):Prop where
 split:splitId id=some ("list",nm)
 kind:(Manifest.find? "list").bind (·.attrs.lookup nm)=some .slot∨(Manifest.find? "list").bind (·.attrs.lookup nm)=some .method
 entry:entryFor table id=some B
 plain:plainId id=true
section
variable{A:Around}{E:Value→Shared→Prop}{s:Shared}
theorem KZ(L:mG id nm B){kw:List (Str×Value)}{Q:Unit→Shared→Prop}(hK:K.In s.heap)(I:InstAt s.heap x ox Cl od)
 (hm:mroIn K Cl (.type "list")=some true) (ha:argsOk id ⟨.ref x::rest,kw⟩) (hQ:Q () s):wpAny (model P w) A (checkBuiltinCall id ⟨.ref x::rest,kw⟩) Q E s:=by
 have hk:builtinKind id=(Manifest.find? "list").bind (·.attrs.lookup nm):=by simp only [builtinKind,L.split]
 have jQ:∀{Q':Bool→Shared→Prop},Q' true s→wpAny (model P w) A (isInstance (.ref x) (.type "list")) Q' E s:=by
  intro Q' hq;simp only [isInstance];exact wpAny_bind ((I.type).here ((looks_mroIn hK hm).here hq))
 have hsplit:=L.split;rcases L.kind with h|h<;>
 ·simp only [checkBuiltinCall,hk,h,hsplit];refine wpAny_bind (jQ ?_);refine fH rfl ?_;cases lN:Manifest.signature? id with
  | none=>exact wpAny_pure hQ
  | some sig=>simp only [argsOk,lN] at ha;have h2:Bind.checkArgs id sig ⟨.ref x::rest,kw⟩=pure ():=ha;show wpAny _ A (Bind.checkArgs id sig ⟨.ref x::rest,kw⟩) Q E s;rw [h2];exact wpAny_pure hQ
theorem qT(L:mG id nm B){Q:Value→Shared→Prop}(hK:K.In s.heap)(I:InstAt s.heap x ox Cl od)
 (hm:mroIn K Cl (.type "list")=some true) (ha:argsOk id ⟨.ref x::rest,[]⟩) (hc:wpAny (model P w) A.in1 (B ⟨.ref x::rest,[]⟩) (fun fin s'=>∃v,fin=.done (.ret v)∧Q v s') E s) :
 wpAny (model P w) A (call (.builtin id) (.ref x::rest)) Q E s:=by
 refine wpAny_call (codeAny_call_builtin L.plain L.entry (KZ L hK I hm ha (wpAny_mono hc (fun fin s' h'=>?_) fun Z Z h'=>h')));refine aj h' ?_;clear h';rintro v rfl hv;exact hv
theorem JV:mG "list.append" "append" Builtin.«list.append»:=⟨by decide+kernel,.inr (by decide+kernel),entry_list_append,by decide+kernel⟩
end
end
section
variable{w:World}{x:Value}{Q:Unit→Shared→Prop}
section
variable{A:Around}{E:Value→Shared→Prop}{s:Shared}
theorem Kq(hq:Q () s):wpAny (model P w) A (checkBoundCall "list.__len__" ⟨[x],[]⟩) Q E s:=
 wpAny_of_eq (a:=()) (by kernel_rfl) hq
theorem Ko(hq:Q () s):wpAny (model P w) A (checkBoundCall "list.__init__" ⟨[x],[]⟩) Q E s:=
 wpAny_of_eq (a:=()) (by kernel_rfl) hq
theorem IQ(a:Addr):(Manifest.signature? "list.pop").map (fun sg=>Bind.checkArgs "list.pop" { sg with full:=s!"{(Str.ofString "_Accumulator").toString}.{Bind.lastOf "list.pop"}" } ⟨[.ref a],[]⟩)=some (pure ()):=by kernel_rfl
theorem Ks{K:Frag}{x Cl:Addr}{ox:Obj}{od:Option Obj}{cd:ClassData}(hK:K.In s.heap)(I:InstAt s.heap x ox Cl od)(hmod:mroIn K Cl (.type "module")=some false)(hc:clsIn K Cl=some cd)
 (hqn:cd.qualname=ofString "_Accumulator") (ht:typeIn K (.ref Cl)=some (.type "type")) (hq:Q () s):wpAny (model P w) A (checkBoundCall "list.pop" ⟨[.ref x],[]⟩) Q E s:=by
 have hargs:=IQ x;have hkd:builtinKind "list.pop"=some .method:=by decide+kernel
 have OR:Manifest.varargsMethods.contains "list.pop"=false:=by decide+kernel
 unfold checkBoundCall;cases lN:Manifest.signature? "list.pop" with
 | none=>rw [lN] at hargs;cases hargs
 | some sg=>
  rw [lN] at hargs;simp only [map_some,Option.some.injEq] at hargs;simp only [hkd];rw [if_neg (by decide)]
  have Oh:wpAny (model P w) A (isInstance (.ref x) (.type "module")) (fun b s'=>b=false∧s'=s) E s:=by
   simp only [isInstance];exact wpAny_bind ((I.type).here ((looks_mroIn hK hmod).here ⟨rfl,rfl⟩))
  refine wpAny_bind (wpAny_mono Oh ?_ fun Z Z e=>e);intro b s' hh;refine au hh ?_;clear hh;rintro rfl rfl;rw [OR];refine fH (Bool.or_self _) ?_;have hnc:∀c,ox.data≠.cls c:=fun c hcc=>by
   have:=I.no;unfold notCls at this;rw [hcc] at this;exact Bool.noConfusion this
  obtain⟨hp,g,dr,tk,os⟩:=s';refine wpAny_bind (ks_wpAny_isType_inst I.at_ hnc ?_);refine fH rfl ?_;refine wpAny_bind ((I.type).here ?_);refine wpAny_bind ((looks_clsIn hK hc).here ?_);refine wpAny_bind ((looks_typeIn hK ht).here ?_);rw [if_pos (by decide+kernel),hqn]
  refine wpAny_of_eq (a:=()) ?_ hq;exact hargs
end
end
section
variable{X:Ctx}{A:Around}{E:Value→Shared→Prop}{s:Shared}
theorem RO{o:Expr}{nm:Str}{ap pos:Pos}{env:Env}{w:Value}{Q:Value→Shared→Prop}(hl:(ap.endLine==pos.line)=true)
 (h:∀pl:Sem Bool,wpAny (model P X.w) A (getMethod w nm pl) (fun x s₁=>(∃kp,(kp=Keeper.frame∨kp=Keeper.machine∨kp=Keeper.boundFrame)∧Looks (model P X.w) s₁.heap (keeperOf x.1) kp)∧wpAny (model P X.w) A (call x.1 (x.2++[]) []) Q E s₁) E s) :
 wpAny (model P X.w) A (methodCall o nm ap pos env w 0 [] []) Q E s:=by
 unfold methodCall;have hf:methodCallForm 0 ([]:List (Bool×Sem Value)) ([]:List (Option Str×Sem Value))=true:=by decide
 rw [hf];show wpAny _ A (holding [w] (getMethod w nm (do return (←importBound o env).getD true))>>=fun x=>methodCallPos true o env ap pos>>=fun qR=>callWith qR x.1 x.2 [] []) _ E s
 refine wpAny_bind (wpAny_holding (wpAny_mono (h _) (fun x s₁ hx=>?_) fun Z Z e=>e));have hp:methodCallPos true o env ap pos=pure pos:=by
  unfold methodCallPos;exact if_pos (by rw [hl];rfl)
 rw [hp];refine wpAny_bind (wpAny_pure (mV rfl ?_));exact evalArgs_nil3 hx
end
section
variable{X:Ctx}{A:Around}{E:Value→Shared→Prop}{s:Shared}
theorem Az{body:List Stmt}{p0 p1 ap pos:Pos}{nm:Str}{env:Env}{f cc:Addr}{of oc:Obj}{fd:FuncData}{ar:Arg}{vs:Array Value}{file:Str}{tf:Tok}{Q:Value→Shared→Prop}
 (hks:env.kindOf "super"=some .globalImplicit) (hkc:env.kindOf "__class__"=some .free) (hat:(nm==("__class__":Str))=false) (hfu:env.func=some f) (hf:s.heap.get? f=some of) (hfd:of.data=.func fd)
 (hp:(fd.params.posonlyargs++fd.params.args).head?=some ar) (hco:env.code=.ref cc) (hcc:s.heap.get? cc=some oc) (hoc:oc.data=.fields vs) (hvs:vs[2]?=some (.str file tf))
 (hfile:((P.main.file:Str)==file)=true) (htop:(P.main.scope.names.lookup ("super":Str)).isSome=false) (hl:(ap.endLine==pos.line)=true)
 (h:wpAny (model P X.w) A (loadName env "super") (fun g s₁=>g=.type "super"∧wpAny (model P X.w) A (loadName env "__class__") (fun cls s₂=>wpAny (model P X.w) A (loadName env ar.arg) (fun self s₃=>
  wpAny (model P X.w) A (isType cls) (fun b s₄=>b=true∧wpAny (model P X.w) A (call (.type "super") [cls,self]) (fun so s₅=>∀pl:Sem Bool,wpAny (model P X.w) A (getMethod so nm pl)
   (fun x s₁=>(∃kp,(kp=Keeper.frame∨kp=Keeper.machine∨kp=Keeper.boundFrame)∧Looks (model P X.w) s₁.heap (keeperOf x.1) kp)∧wpAny (model P X.w) A (call x.1 (x.2++[]) []) Q E s₁) E s₅) E s₄) E s₃) E s₂) E s₁) E s) :
 PySem.wpAt (model P X.w) A (.func body env) (eval (.Call (.Attribute (.Call (.Name "super" p0) [] [] p1) nm ap) [] [] pos) env) Q E s:=by
 show PySem.wpAt _ A _ (attributeBase (.Call (.Name "super" p0) [] [] p1) nm env (eval (.Call (.Name "super" p0) [] [] p1) env)>>=fun ov=>standAt ap.atName>>=fun Z=>methodCall (.Call (.Name "super" p0) [] [] p1) nm ap pos env ov 0 [] []) Q E s;refine PySem.wpAt_bind (PySem.wpAt_mono (PySem.ks_wpAt_super_base hks hkc hat hfu hf hfd hp hco hcc hoc hvs hfile htop h) (fun so s₅ h₅=>?_) fun Z Z e=>e);exact PySem.wpAt_of_wpAny (wpAny_bind (wpAny_standAt (RO hl h₅)))
end
theorem QZ:mH "__len__" "list.__len__" "wrapper_descriptor" "method-wrapper":=⟨⟨_,rfl,fun K=>by kernel_rfl⟩,V3,.inl ⟨rfl,rfl⟩,by decide+kernel,by decide+kernel⟩
theorem Fc:mH "__init__" "list.__init__" "wrapper_descriptor" "method-wrapper":=⟨⟨_,rfl,fun K=>by kernel_rfl⟩,V2,.inl ⟨rfl,rfl⟩,by decide+kernel,by decide+kernel⟩
theorem Fd:mH "pop" "list.pop" "method_descriptor" "builtin_function_or_method":=⟨⟨_,rfl,fun K=>by kernel_rfl⟩,PySem.F.type_list_pop,.inr ⟨rfl,rfl,by decide+kernel⟩,by decide+kernel,by decide+kernel⟩
structure j4(K:Frag)(cd:ClassData):Prop where
 cls:clsIn K aN=some cd
 mro:cd.mro=[.ref aN,.type "list",.type "object"]
 qn:cd.qualname=ofString "_Accumulator"
 ga:findIn K (.ref aN) "__getattribute__"=some (some (.builtin "list.__getattribute__"))
 gt:findIn K (.ref aN) "__getattr__"=some none
 jQ:mroIn K aN (.type "list")=some true
 pO:mroIn K aN (.type "module")=some false
 zo:mroIn K aN (.ref aN)=some true
 ty:typeIn K (.ref aN)=some (.type "type")
 any:nsIn K cStatics "thirdparty.any"=some none
section
variable{X:Ctx}{A:Around}{E:Value→Shared→Prop}{s:Shared}
theorem K9{K:Frag}{C:Addr}{cd:ClassData}(h:clsIn K C=some cd):∃c d sl,K.lookup C=some ⟨c,d,.cls cd,sl⟩:=by
 unfold clsIn at h;cases hk:K.lookup C with
 | none=>rw [hk] at h;exact nn h
 | some o=>rw [hk] at h;obtain⟨c,d,da,sl⟩:=o;cases da<;>first|exact nn h|(cases h;exact⟨_,_,_,rfl⟩)
theorem wY{K:Frag}{cd:ClassData}(CK:j4 K cd)(hK:K.In s.heap){a d:Addr}{init:Int}{vs:Array Value}(ha:AccAt s.heap a d init vs){env:Env}{cc:Addr}{sn nm:Str}{m:Str→Option Value}{id Ty bound:String}{Q:Value→Shared→Prop}
 (hk:env.scope.kind=.function) (hks:env.kindOf "super"=some .globalImplicit) (hkc:env.kindOf "__class__"=some .free) (hka:env.kindOf sn=some .local) (hsup:Looks (model P X.w) s.heap (loadGlobal env "super") (.type "super"))
 (hcl:env.cells.lookup ("__class__":Str)=some cc) (hcell:s.heap.IsCell cc (some (.ref aN))) (hns:s.heap.Ns env.locals m) (hself:m sn=some (.ref a)) (LN:mH nm id Ty bound)
 (hq:∀b h' t',aM s.heap h'→s.heap.objs.size≤b→h'.get? b=some { cls:=.type bound,data:=.fields #[.builtin id,.ref a] }→wpAny (model P X.w) A (call (.ref b) [] []) Q E { s with heap:=h',toks:=t' }) :
 wpAny (model P X.w) A (loadName env "super") (fun g s₁=>g=.type "super"∧wpAny (model P X.w) A (loadName env "__class__") (fun cls s₂=>wpAny (model P X.w) A (loadName env sn) (fun self s₃=>
  wpAny (model P X.w) A (isType cls) (fun b s₄=>b=true∧wpAny (model P X.w) A (call (.type "super") [cls,self]) (fun so s₅=>∀pl:Sem Bool,wpAny (model P X.w) A (getMethod so nm pl)
   (fun x s₁=>(∃kp,(kp=Keeper.frame∨kp=Keeper.machine∨kp=Keeper.boundFrame)∧Looks (model P X.w) s₁.heap (keeperOf x.1) kp)∧wpAny (model P X.w) A (call x.1 (x.2++[]) []) Q E s₁) E s₅) E s₄) E s₃) E s₂) E s₁) E s:=by
 refine ks_loadName_global hk hks (hsup.here ⟨rfl,?_⟩);refine wpAny_loadName_free hk hkc hcl hcell ?_;refine wpAny_loadName_local hk hka hns hself ?_;obtain⟨oD,m9,yh⟩:∃oD,s.heap.get? aN=some oD∧oD.data=.cls cd:=by
  have hc:=CK.cls;refine lD (K9 hc) ?_;intro c d' sl ho;exact⟨_,hK _ _ ho,rfl⟩
 refine bK ha.inst ?_;intro ox od I _;have hnc:∀c,ox.data≠.cls c:=fun c hcc=>by
  have:=I.no;unfold notCls at this;rw [hcc] at this;exact Bool.noConfusion this
 have hxC:a≠aN:=by
  rintro rfl;obtain rfl:=Option.some.inj (I.at_.symm.trans m9);exact hnc _ yh
 obtain⟨hp,g,dr,tk,os⟩:=s;refine ks_wpAny_isType_cls m9 yh ⟨rfl,?_⟩;refine ks_wpAny_call_super m9 yh I.at_ I.cls hnc (looks_mroIn hK CK.zo) (fun h' e k=>?_);intro pl;have ym:=hK.keeps k;have I':InstAt h' a ox aN od:=⟨k _ _ I.at_,I.cls,I.no,by
  have:=I.dict;revert this;cases ox.dict<;>cases od<;>simp
  exact fun z=>k _ _ z⟩
 refine Vx LN e (looks_opaque ym CK.any) (l₀:=cd.mro) (fun A Q E s kk q=>wpAny_bind ((looks_clsIn ym CK.cls) A _ E s kk (wpAny_pure q))) (by rw [CK.mro];decide+kernel) ym I' CK.jQ hxC ?_
 have hb:(h'.push { cls:=.type bound,data:=.fields #[.builtin id,.ref a] }).get? h'.objs.size=some { cls:=.type bound,data:=.fields #[.builtin id,.ref a] }:=get?_push_size _ rfl;have hsz:hp.objs.size≤h'.objs.size:=le_of_lt (lt_size e);have G:aM hp (h'.push { cls:=.type bound,data:=.fields #[.builtin id,.ref a] }):=⟨fun b o q=>get?_push_of_some _ (k b o q),by rw [size_push];exact le_succ_of_le hsz⟩
 refine⟨⟨.machine,.inr (.inl rfl),?_⟩,hq _ _ _ G hsz hb⟩;intro A' Q' E' s' kk q';unfold keeperOf;refine wpAny_bind (wpAny_load (kk _ _ hb) ?_);rcases LN.get with⟨_,rfl⟩|⟨_,rfl,_⟩<;>exact wpAny_pure q'
end
inductive Bb(X:Ctx)(fd:FuncData):Prop
 | mk (c:Addr) (co:Obj) (ws:Array Value) (t:Tok) (file:Str) (tf:Tok):fd.code=.ref c→X.hB.get? c=some co→¬X.tab c→co.data=.fields ws→ws[1]?=some (.str fd.qualname t)→ws[2]?=some (.str file tf)→((P.main.file:Str)==file)=true→Bb X fd
structure mJ(X:Ctx)(f cc:Addr)(fd:FuncData)(o:Obj):Prop where
 at':X.hB.get? f=some o
 nt:¬X.tab f
 data:o.data=.func fd
 globals:fd.globals=mainGlobals
 builtins:fd.builtins=builtinsNs
 closure:fd.closure=[(("__class__":Str),cc)]
 kind:fd.scope.kind=.function
 co:fd.scope.isCoroutine=false
 gen:fd.scope.isGenerator=false
 code:Bb X fd
 cell:∃co,X.hB.get? cc=some co∧¬X.tab cc∧co.data=.cell (some (.ref aN))
 super:∀h,Keeps X h→∀env:Env,env.globals=mainGlobals→env.builtins=builtinsNs→Looks (model P X.w) h (loadGlobal env "super") (.type "super")
section
variable{X:Ctx}
theorem HP{M:Model}{A:Around}{c:Code}{E:Value→Shared→Prop}{s:Shared}{e:Expr}{rp:Pos}{env:Env}{Q:Flow→Shared→Prop}(h:PySem.wpAt M A c (eval e env) (fun v s'=>Q (.ret v) s') E s) :
 PySem.wpAt M A c (execs [.Return (some e) rp] env) Q E s:=by
 show PySem.wpAt M A c (exec (.Return (some e) rp) env>>=fun f=>match f with | .next=>pure .next|f=>pure f) Q E s
 refine PySem.wpAt_bind ?_;show PySem.wpAt M A c (standAt rp>>=fun Z=>eval e env>>=fun v=>pure (Flow.ret v)) _ E s;refine PySem.wpAt_bind (PySem.wpAt_of_wpAny (wpAny_standAt (PySem.wpAt_bind (PySem.wpAt_mono h (fun v s' hv=>?_) fun Z Z x=>x))));exact PySem.wpAt_of_wpAny (wpAny_pure (PySem.wpAt_of_wpAny (wpAny_pure hv)))
end
section
variable{X:Ctx}
theorem Vv{K:Frag}{cd:ClassData}(CK:j4 K cd)(jd:∀h,Keeps X h→K.In h){f cc:Addr}{fd:FuncData}{o:Obj}(MO:mJ X f cc fd o){p0 p1 ap q rp:Pos}{nm sn:Str}{id Ty bound:String}(LN:mH nm id Ty bound)
 (hbody:fd.body=.stmts [.Return (some (.Call (.Attribute (.Call (.Name "super" p0) [] [] p1) nm ap) [] [] q)) rp]) (hpar:kL fd.params=some sn) (hd1:fd.defaults=.none) (hd2:fd.kwdefaults=.none)
 (hks:fd.scope.names.lookup ("super":Str)=some .globalImplicit) (hkc:fd.scope.names.lookup ("__class__":Str)=some .free) (hka:fd.scope.names.lookup sn=some .local) (yP:∀x∈fd.scope.names,x.2≠.cell)
 (htop:(P.main.scope.names.lookup ("super":Str)).isSome=false) (hl:(ap.endLine==q.line)=true)
 {A:Around} {E:Value→Shared→Prop} {s:Shared} {a d:Addr} {init:Int} {vs:Array Value} {Q:Value→Shared→Prop} (dZ:A.depth<1000) (Am:aq X s) (ha:AccAt s.heap a d init vs)
 (hq:∀b h' t',aM s.heap h'→h'.get? b=some { cls:=.type bound,data:=.fields #[.builtin id,.ref a] }→∀{A':Around} {E':Value→Shared→Prop},wpAny (model P X.w) A' (call (.ref b) [] []) Q E' { s with heap:=h',toks:=t' }) :
 wpAny (model P X.w) A (call (.ref f) [.ref a] []) Q E s:=by
 refine cps fun Z kk=>?_;obtain⟨c,co,ws,t,file,tf,q1,q2,q3,q4,q5,q6,q7⟩:=MO.code;refine kk ?_;clear kk;refine wpAny_call (codeAny_call_function (o:=o) (fd:=fd) dZ (Am.keep _ _ MO.at' MO.nt) MO.data MO.co MO.gen hbody ⟨c,co,ws,t,q1,Am.keep _ _ q2 q3,q4,q5⟩ ?_);rw [B3 rfl hpar hd1 hd2];refine wpAny_pure ?_;rw [MO.closure,MO.globals,MO.builtins,q1];refine wpAny_newFunctionEnv yP (fun x hx=>?_) (fun h' hns hsb=>?_) MO.kind
 ·simp only [mem_singleton] at hx;subst hx;exact hka
 ·have e0:(none:Option Env).isSome=false:=rfl;simp only [e0,false_eq_true,if_false] at hsb;have G:aM s.heap h':=by
   refine⟨fun b o e=>(hsb.2 b (ne_of_lt (lt_size e))).trans (get?_push_of_some _ e),?_⟩;rw [hsb.1,size_push];exact le_succ _
  refine⟨(Am.grown (s':={ s with heap:=h',toks:=s.toks+1 }) G).lim,ks_codeAny_funcAt (HP ?_)⟩
  have dc:aq X ({ s with heap:=h',toks:=s.toks+1 }:Shared):=Am.grown G
  refine bQ MO.cell ?_;intro oc r1 r2 r3;have ha0:=ha;obtain⟨nn,t0,hh,kt,e1,e2⟩:=ha0;have ha':AccAt h' a d init vs:=⟨nn,t0,hh,kt,G.keep _ _ e1,G.keep _ _ e2⟩;refine aj (Ga hpar) ?_;intro ar har rJ;refine Az (s:={ s with heap:=h',toks:=s.toks+1 }) hks hkc LN.vg rfl (dc.keep _ _ MO.at' MO.nt) MO.data har rfl (dc.keep _ _ q2 q3) q4 q6 q7 htop hl ?_
  rw [rJ];refine wY CK (jd _ dc.keeps) ha' MO.kind hks hkc hka (MO.super _ dc.keeps _ rfl rfl) rfl ⟨oc,dc.keep _ _ r1 r2,r3⟩ hns (by simp) LN fun b h'' t' G' Z hb=>?_
  exact hq b h'' t' (G.trans G') hb
end
section
variable{A:Around}{E Q:Value→Shared→Prop}{s:Shared}{b a:Addr}{vs:Array Value}
variable{X:Ctx}
theorem Kr{o:Obj}{n:Nat}(hb:s.heap.get? b=some { cls:=.type "method-wrapper",data:=.fields #[.builtin "list.__len__",.ref a] })
 (e:s.heap.get? a=some o) (d:o.data=.seq vs n) (hn:vs.size<2^20) (hq:∀t k,Q (.int (vs.size:Int) t) { s with toks:=k }):wpAny (model P X.w) A (call (.ref b) [] []) Q E s:=by
 refine wpAny_call (xB (args:=[]) hb (.inl rfl) (by kernel_rfl) (Kq (codeAny_builtin PySem.F.entry_list_len ?_)))
 exact UZ e d hn fun t k=>hq t k
theorem Ku{K:Frag}{cd:ClassData}(CK:j4 K cd)(hK:K.In s.heap){d:Addr}{init:Int}{x:Value}
 (hb:s.heap.get? b=some { cls:=.type "builtin_function_or_method",data:=.fields #[.builtin "list.pop",.ref a] }) (ha:AccAt s.heap a d init vs) (hx:vs.back?=some x) (hn:vs.size<2^20)
 (hq:Q x { s with heap:=s.heap.update a (mapSeq (·.eraseIdxIfInBounds (vs.size - 1))) }):wpAny (model P X.w) A (call (.ref b) [] []) Q E s:=by
 have ha0:=ha;refine bK ha.inst ?_;intro ox od I _;obtain⟨nn,t0,hh,kt,e1,e2⟩:=ha0;refine wpAny_call (xB (args:=[]) hb (.inr rfl) (by kernel_rfl) (Ks hK I CK.pO CK.cls CK.qn CK.ty (codeAny_builtin PySem.F.entry_list_pop ?_)))
 exact U0 e1 rfl hx hn hq
end
section
variable{X:Ctx}
theorem CA{K:Frag}{cd:ClassData}(CK:j4 K cd)(jd:∀h,Keeps X h→K.In h){f cc:Addr}{fd:FuncData}{o:Obj}(MO:mJ X f cc fd o){p0 p1 ap q rp:Pos}{sn:Str}
 (hbody:fd.body=.stmts [.Return (some (.Call (.Attribute (.Call (.Name "super" p0) [] [] p1) "__len__" ap) [] [] q)) rp]) (hpar:kL fd.params=some sn) (hd1:fd.defaults=.none) (hd2:fd.kwdefaults=.none)
 (hks:fd.scope.names.lookup ("super":Str)=some .globalImplicit) (hkc:fd.scope.names.lookup ("__class__":Str)=some .free) (hka:fd.scope.names.lookup sn=some .local) (yP:∀x∈fd.scope.names,x.2≠.cell)
 (htop:(P.main.scope.names.lookup ("super":Str)).isSome=false) (hl:(ap.endLine==q.line)=true)
 {A:Around} {E:Value→Shared→Prop} {s:Shared} {ρ:aB} {σ:aa} {v:Value} {m:Nat} {init:Int} {l:List V} (dZ:A.depth<1000) (Am:aq X s) (R:Rel X ρ σ s.heap) (rv:VR X ρ s.heap v (.loc m)) (hm:σ[m]?=some (.acc init l)) (hn:l.length<2^20) :
 wpAny (model P X.w) A (call (.ref f) [v] []) (aD X ρ s σ (.int l.length)) E s:=by
 refine aj rv.inv ?_;rintro p rfl e;refine aj (R.get e) ?_;intro mo hmo om;obtain rfl:mo=.acc init l:=Option.some.inj (hmo.symm.trans hm);refine cY om.inv ?_;rintro a d vs rfl at' rs hp;have hlen:vs.size=l.length:=by have:=rs.length;simpa using this
 refine Vv CK jd MO QZ hbody hpar hd1 hd2 hks hkc hka yP htop hl dZ Am at' fun b h' t' G hb A' E'=>?_;obtain⟨nn,t0,hh,kt,e1,e2⟩:=at';refine Kr (s:={ s with heap:=h',toks:=t' }) hb (G.keep _ _ e1) rfl (by rw [hlen];exact hn) fun t k=>?_
 rw [hlen];exact aD.here Am R (s':={ s with heap:=h',toks:=k }) G (.int _ _)
end
section
variable(C:Calls)(n:Nat)(me:ao)(p:Pos)(σ:aa)
theorem C2(t:Expr)(a b:List Stmt):aZ C (n+1) me (.If t a b p) σ=(aX C n me t σ).bind fun (c,σ)=>if c then aU C n me a σ else aU C n me b σ:=rfl
theorem execs_nil:aU C (n+1) me [] σ=some (.next,me,σ):=rfl
theorem execs_cons(t:Stmt)(a:List Stmt):aU C (n+1) me (t::a) σ=(aZ C n me t σ).bind fun (fl,me,σ)=>match fl with
 | .next=>aU C n me a σ
 | fl=>some (fl,me,σ):=rfl
theorem HD(l r:Expr)(op:CmpOp):aX C (n+1) me (.Compare l [op] [r] p) σ=(ak C n me l σ).bind fun (a,σ)=>(ak C n me r σ).bind fun (b,σ)=>(cQ σ op a b).map fun v=>(v,σ):=rfl
theorem CY(o:Expr)(nm:Str)(ap q:Pos)(as:List Expr)(hb:l7 o=true)(hl:(ap.endLine==q.line)=true)(ha:as.length<29):ak C (n+1) me (.Call (.Attribute o nm ap) as [] q) σ=(ak C n me o σ).bind fun (ov,σ)=>(C.res ov nm σ).bind fun f=>(b7 (ak C n) me as σ).bind fun (vs,σ)=>C.call f (ov::vs) none σ:=by
 show qh (ak C n) C me o nm ap as q σ=_;unfold qh;rw [if_pos (by rw [hb,hl,decide_eq_true ha];rfl)]
theorem CZ(o:Expr)(nm:Str)(ap q:Pos)(hb:l7 o=true)(hl:(ap.endLine==q.line)=true):ak C (n+1) me (.Call (.Attribute o nm ap) [] [] q) σ=(ak C n me o σ).bind fun (ov,σ)=>(C.res ov nm σ).bind fun f=>C.call f [ov] none σ:=
 CY C n me σ o nm ap q [] hb hl (by decide)
theorem xT(x:Str):ak C (n+1) me (.Name x p) σ=(cy C me x).map fun v=>(v,σ):=rfl
theorem CX(x:Int)(k:Nat):ak C (n+1) me (.Constant (.int x) k p) σ=some (.int x,σ):=rfl
theorem LV(e:Expr):aZ C (n+1) me (.Return (some e) p) σ=(ak C n me e σ).map fun (v,σ)=>(.ret v,me,σ):=rfl
end
section
variable{f:Addr}{aE:List (Str×Addr)}{fd:FuncData}{o:Obj}{body:List Stmt}{ls:List Str}{k:Nat}{A:Around}{ρ:aB}{σ σ':aa}{s:Shared}{vs:List Value}{bs:List (Str×V)}{binds:List (Str×Value)}{u:V}{E:Value→Shared→Prop}{env:Env}
variable{X:Ctx}
inductive Ba(X:Ctx)(fd:FuncData):Prop
 | mk (c:Addr) (co:Obj) (ws:Array Value) (t:Tok):fd.code=.ref c→X.hB.get? c=some co→¬X.tab c→co.data=.fields ws→ws[1]?=some (.str fd.qualname t)→Ba X fd
structure MethAt(X:Ctx)(f:Addr)(aE:List (Str×Addr))(fd:FuncData)(o:Obj):Prop where
 at':X.hB.get? f=some o
 nt:¬X.tab f
 data:o.data=.func fd
 globals:fd.globals=mainGlobals
 builtins:fd.builtins=builtinsNs
 closure:fd.closure=aE
 inj:∀(x y:Str) (c:Addr),aE.lookup x=some c→aE.lookup y=some c→x=y
 kind:fd.scope.kind=.function
 co:fd.scope.isCoroutine=false
 gen:fd.scope.isGenerator=false
 jT:∀x∈fd.scope.names,x.2≠.cell
 code:Ba X fd
theorem Q3{α:Type}:∀{l:List (Str×α)} {x:Str},(l.map (·.1)).Nodup→l.reverse.lookup x=l.lookup x:=by
 intro l
 induction l with
 | nil=>intro x _;exact rfl
 | cons hd0 r rc=>
  obtain⟨y,v⟩:=hd0;intro x hn;simp only [map_cons,nodup_cons] at hn;rw [List.reverse_cons,List.lookup_append,rc hn.2,lookup_cons]
  by_cases hxy:x=y
  ·subst hxy;have hr:r.lookup x=none:=by
    rw [lookup_eq_none_iff];intro p hp;simp only [bne_iff_ne,ne_eq];rintro rfl;exact hn.1 (mem_map.mpr ⟨p,hp,rfl⟩)
   simp [hr]
  ·have:(x==y)=false:=by simpa using hxy
   simp [lookup_cons,this]
noncomputable def c7(ls:List Str):List (Str×NameKind):=ls.map fun x=>(x,.local)
theorem lX:∀{ls:List Str} {x:Str} {k:NameKind},(c7 ls).lookup x=some k→k=.local∧x∈ls:=by
 intro ls
 induction ls with
 | nil=>intro x k h;exact nn h
 | cons y r rc=>
  intro x k h;rcases u0 (r:=c7 r) h with⟨rfl,rfl⟩|⟨_,h⟩
  ·exact⟨rfl,mem_cons_self⟩
  ·have:=rc h;exact⟨this.1,mem_cons_of_mem _ this.2⟩
theorem FF(MO:MethAt X f aE fd o)(hbody:fd.body=.stmts body)(hls:∀x∈ls,fd.scope.names.lookup x=some .local)
 {RR:Result→Shared→Prop} (dZ:A.depth<1000) (ni:∀env,aT k (A.deeper env)) (Am:aq X s) (R:Rel X ρ σ s.heap) (bg:∀a∈ρ.priv,bX s.heap a)
 (hb:BindsTo s fd ⟨vs,[]⟩ binds) (hnames:binds.map (·.1)=bs.map (·.1)) (jg:aC X ρ s.heap (binds.map (·.2)) (bs.map (·.2))) (hloc:∀b∈bs,fd.scope.names.lookup b.1=some .local) (hnd:(bs.map (·.1)).Nodup)
 (H:∀{env:Env} {h₁:Heap} {tk:Nat} {A':Around},env=newEnv fd.scope s.heap.objs.size mainGlobals aE (fd.qualname++".<locals>.") (some f) fd.code none builtinsNs→aT k A'→aM s.heap h₁→
  bB X s.heap ρ env { names:=c7 ls,vals:=bs,code:=.none,qual:=fd.qualname++".<locals>." } ⟨ρ.ah,[s.heap.objs.size]++ρ.priv⟩ σ ({ s with heap:=h₁,toks:=tk }:Shared)→
  PySem.wpAt (model P X.w) A' (.func body env) (execs body env) (fun fl s'=>∃aO w az,iw X ⟨aO,[s.heap.objs.size]++ρ.priv⟩ s'.heap fl w∧(w=.ret u∨(w=.next∧u=.none))∧
   bB X s.heap ρ env az ⟨aO,[s.heap.objs.size]++ρ.priv⟩ σ' s'∧FK X (fun a=>a=s.heap.objs.size) ρ.ah aO h₁ s'.heap) (fun Z Z=>False) ({ s with heap:=h₁,toks:=tk }:Shared))
 (hRR:∀v s',aD X ρ s σ' u v s'→RR (.ok (.ret v)) s') :
 codeAny (model P X.w) A (.call (.ref f) ⟨vs,[]⟩) RR s:=by
 obtain⟨c,co,ws,t,q1,q2,q3,q4,q5⟩:=MO.code;refine (codeAny_call_function (o:=o) (fd:=fd) dZ (Am.keep _ _ MO.at' MO.nt) MO.data MO.co MO.gen hbody ⟨c,co,ws,t,q1,Am.keep _ _ q2 q3,q4,q5⟩ ?_);refine hb _ _ _ _ ?_;rw [MO.closure,MO.globals,MO.builtins];refine wpAny_newFunctionEnv MO.jT (fun x hx=>?_) (fun h' hns hsb=>?_) MO.kind
 ·have:x.1∈bs.map (·.1):=by rw [←hnames];exact mem_map.mpr ⟨x,hx,rfl⟩
  refine aj (mem_map.mp this) ?_;intro b hb' e;rw [←e];exact hloc b hb'
 ·have e0:(none:Option Env).isSome=false:=rfl;simp only [e0,false_eq_true,if_false] at hsb;have hsz:h'.objs.size=s.heap.objs.size+1:=by rw [hsb.1,size_push]
  have G:aM s.heap h':=by
   refine⟨fun b o e=>(hsb.2 b (ne_of_lt (lt_size e))).trans (get?_push_of_some _ e),?_⟩;rw [hsz];exact le_succ _
  have dc:aq X ({ s with heap:=h',toks:=s.toks+binds.length }:Shared):=Am.grown G
  have hq:∀a∈[s.heap.objs.size],s.heap.objs.size≤a∧a<h'.objs.size:=by
   intro a ha;simp only [mem_singleton] at ha;subst ha;exact⟨le_refl _,by rw [hsz];exact lt_succ_self _⟩
  have gM:∀{cl:Bool},bS cl ρ ⟨ρ.ah,[s.heap.objs.size]++ρ.priv⟩ s.heap h':=pg G fun a ha=>(hq a ha).1;have hnd':(binds.map (·.1)).Nodup:=by rw [hnames];exact hnd
  have I:bB X s.heap ρ (newEnv fd.scope s.heap.objs.size mainGlobals aE (fd.qualname++".<locals>.") (some f) fd.code none builtinsNs) { names:=c7 ls,vals:=bs,code:=.none,qual:=fd.qualname++".<locals>." }
   ⟨ρ.ah,[s.heap.objs.size]++ρ.priv⟩ σ ({ s with heap:=h',toks:=s.toks+binds.length }:Shared):=by
   refine⟨dc,R.enter G hq Am.size,?_,G.step _,Am.size,le_refl _,fun x c hx hc=>?_⟩
   ·refine { kind:=MO.kind,globals:=rfl,builtins:=rfl,code:=fun z=>absurd rfl z,qual:=rfl,names:=fun x kd hx=>?_,loc:=⟨_,hns,fun x u hx hu=>?_⟩,cell:=fun x kd hx hkd=>?_,priv:=by simp [newEnv],pl:=fun⟨x,hx⟩=>?_,inj:=fun x y c hx hy=>?_,pv:=fun a ha=>?_ }
    ·refine au (lX hx) ?_;rintro rfl hm;exact .inl (hls x hm)
    ·refine aj (qN hnames jg hu) ?_;intro v q1 q2;exact⟨v,by show binds.reverse.lookup x=_;rw [Q3 hnd',q1],q2.mono (gM (cl:=true)) (.inl rfl)⟩
    ·refine au (lX hx) ?_;rintro rfl _;rcases hkd with h|h<;>cases h
    ·exact absurd (lX hx).1 (by decide)
    ·exact MO.inj x y c hx hy
    ·rcases mem_append.mp ha with h3|h3
     ·simp only [mem_singleton] at h3;subst h3;refine dw hns ?_;clear hns;intro o' es ep e' d' _;exact⟨o',e',.inl ⟨_,_,d'⟩⟩
     ·exact (bg a h3).keep fun o e=>G.keep a o e
   ·exact absurd (lX hx).1 (by decide)
  refine⟨dc.lim,ks_codeAny_funcAt ?_⟩;refine PySem.wpAt_mono (H rfl (ni _) G I) (fun fl s' hf=>?_) fun Z Z x=>x.elim;refine cY hf ?_;clear hf;intro aO w az rf hw I' j5;have S:Step X ρ ⟨aO,ρ.priv⟩ s.heap s'.heap:=(((G.step ρ).fk.trans j5).drop (y:=fun Z=>False) fun b hb=>.inr (le_of_eq hb.symm)).toStep;have hsub:∀a∈ρ.priv,a∈[s.heap.objs.size]++ρ.priv:=fun a ha=>mem_append_right _ ha;have R':Rel X ⟨aO,ρ.priv⟩ σ' s'.heap:=I'.rel.leave hsub;rcases hw with rfl|⟨rfl,rfl⟩
  ·refine aj rf.inv ?_;rintro _ rfl rv;exact hRR _ _ ⟨aO,S,I'.aG,R',rv.mono (pT (cl:=true) _ hsub) (.inl rfl)⟩
  ·obtain rfl:=rf.inv;exact hRR _ _ ⟨aO,S,I'.aG,R',.none⟩
theorem ve(MO:MethAt X f aE fd o)(hbody:fd.body=.stmts body)(hls:∀x∈ls,fd.scope.names.lookup x=some .local)
 (Rm:aT (k+1) A) (Am:aq X s) (R:Rel X ρ σ s.heap) (bg:∀a∈ρ.priv,bX s.heap a)
 (hb:BindsTo s fd ⟨vs,[]⟩ binds) (hnames:binds.map (·.1)=bs.map (·.1)) (jg:aC X ρ s.heap (binds.map (·.2)) (bs.map (·.2))) (hloc:∀b∈bs,fd.scope.names.lookup b.1=some .local) (hnd:(bs.map (·.1)).Nodup)
 (H:∀{env:Env} {h₁:Heap} {tk:Nat} {A':Around},env=newEnv fd.scope s.heap.objs.size mainGlobals aE (fd.qualname++".<locals>.") (some f) fd.code none builtinsNs→aT k A'→aM s.heap h₁→
  bB X s.heap ρ env { names:=c7 ls,vals:=bs,code:=.none,qual:=fd.qualname++".<locals>." } ⟨ρ.ah,[s.heap.objs.size]++ρ.priv⟩ σ ({ s with heap:=h₁,toks:=tk }:Shared)→
  PySem.wpAt (model P X.w) A' (.func body env) (execs body env) (fun fl s'=>∃aO w az,iw X ⟨aO,[s.heap.objs.size]++ρ.priv⟩ s'.heap fl w∧(w=.ret u∨(w=.next∧u=.none))∧
   bB X s.heap ρ env az ⟨aO,[s.heap.objs.size]++ρ.priv⟩ σ' s'∧FK X (fun a=>a=s.heap.objs.size) ρ.ah aO h₁ s'.heap) (fun Z Z=>False) ({ s with heap:=h₁,toks:=tk }:Shared)) :
 wpAny (model P X.w) A (call (.ref f) vs []) (aD X ρ s σ' u) E s:=by
 refine wpAny_call (FF MO hbody hls (by have:=Rm.depth;lia) (fun Z=>Rm.deeper) Am R bg hb hnames jg hloc hnd H fun v s' h=>?_)
 exact h
theorem FG(MO:MethAt X f aE fd o)(hbody:fd.body=.stmts body)(hls:∀x∈ls,fd.scope.names.lookup x=some .local)
 (dZ:A.depth<1000) (ni:∀env,aT k (A.deeper env)) (Am:aq X s) (R:Rel X ρ σ s.heap) (bg:∀a∈ρ.priv,bX s.heap a)
 (hb:BindsTo s fd ⟨vs,[]⟩ binds) (hnames:binds.map (·.1)=bs.map (·.1)) (jg:aC X ρ s.heap (binds.map (·.2)) (bs.map (·.2))) (hloc:∀b∈bs,fd.scope.names.lookup b.1=some .local) (hnd:(bs.map (·.1)).Nodup)
 (H:∀{env:Env} {h₁:Heap} {tk:Nat} {A':Around},env=newEnv fd.scope s.heap.objs.size mainGlobals aE (fd.qualname++".<locals>.") (some f) fd.code none builtinsNs→aT k A'→aM s.heap h₁→
  bB X s.heap ρ env { names:=c7 ls,vals:=bs,code:=.none,qual:=fd.qualname++".<locals>." } ⟨ρ.ah,[s.heap.objs.size]++ρ.priv⟩ σ ({ s with heap:=h₁,toks:=tk }:Shared)→
  PySem.wpAt (model P X.w) A' (.func body env) (execs body env) (fun fl s'=>∃aO w az,iw X ⟨aO,[s.heap.objs.size]++ρ.priv⟩ s'.heap fl w∧(w=.ret u∨(w=.next∧u=.none))∧
   bB X s.heap ρ env az ⟨aO,[s.heap.objs.size]++ρ.priv⟩ σ' s'∧FK X (fun a=>a=s.heap.objs.size) ρ.ah aO h₁ s'.heap) (fun Z Z=>False) ({ s with heap:=h₁,toks:=tk }:Shared)) :
 wpAny (model P X.w) A (call (.ref f) vs []) (aD X ρ s σ' u) E s:=by
 refine wpAny_call (FF MO hbody hls dZ ni Am R bg hb hnames jg hloc hnd H fun v s' h=>?_);exact h
theorem aT.in1_deeper(R:aT (k+1) A):aT k (A.in1.deeper env):=⟨R.handled,qu (b:=1) R.depth (by decide),qu (b:=4) R.units (by decide)⟩
theorem aT.Pn(R:aT (k+1) A):aT k (A.in1.in1.deeper env):=⟨R.handled,qu (b:=1) R.depth (by decide),qu (b:=5) R.units (by decide)⟩
end
section
variable{σ:aa}{m:Nat}{i:Int}{l:List V}{u:V}{K:Frag}{cd:ClassData}
variable{X:Ctx}{T:Tables}
structure kY(X:Ctx)(T:Tables)(K:Frag)(cd:ClassData):Prop where
 ck:j4 K cd
 keeps:∀h,Keeps X h→K.In h
 fM:bI X
 xY:findIn K (.ref aN) "append"=some (some (.builtin "list.append"))
 VC:typeOf (.builtin "list.append")=pure (.type "method_descriptor")
 ue:findIn K (.ref aN) "part_count"=some (some (.ref T.count))
 VD:typeIn K (.ref T.count)=some (.type "function")
 R5:T.count<nB
 Qw:∀h,Keeps X h→Looks (model P X.w) h (keeperOf (.ref T.count)) .frame
noncomputable def C0(T:Tables):Calls where
 call:=fun fv us key σ=>if key.isSome then none else match fv with
  | .bi id=>if id="list.append" then (iV us).bind fun (o,u)=>(iX σ o).bind fun (m,init,l)=>if u.plain=true∧l.length<64 then some (.none,σ.set m (.acc init (l++[u]))) else none else none
  | .base a=>if a=T.count then (one? us).bind fun o=>(iX σ o).bind fun (_,_,l)=>if l.length≤64 then some (.int l.length,σ) else none else none
  | _=>none
 glob:=fun Z=>none
 res:=fun ov name σ=>(iX σ ov).bind fun Z=>if name=("append":Str) then some (.bi "list.append") else if name=("part_count":Str) then some (.base T.count) else none
 lam:=fun Z Z=>none
theorem KG(h:σ[m]?=some (.acc i l)):(C0 T).res (.loc m) "append" σ=some (.bi "list.append"):=by
 show (iX σ (.loc m)).bind _=_;rw [tC h];kernel_rfl!
theorem B8(h:σ[m]?=some (.acc i l)):(C0 T).res (.loc m) "part_count" σ=some (.base T.count):=by
 show (iX σ (.loc m)).bind _=_;rw [tC h];kernel_rfl!
theorem B7(h:σ[m]?=some (.acc i l))(hn:l.length≤64):(C0 T).call (.base T.count) [.loc m] none σ=some (.int l.length,σ):=by
 show (if T.count=T.count then (iX σ (.loc m)).bind _ else none)=_
 rw [if_pos rfl,tC h];exact if_pos hn
theorem KA(h:σ[m]?=some (.acc i l))(hp:u.plain=true)(hn:l.length<64):(C0 T).call (.bi "list.append") [.loc m,u] none σ=some (.none,σ.set m (.acc i (l++[u]))):=by
 show (if "list.append"="list.append" then (iX σ (.loc m)).bind _ else none)=_
 rw [if_pos rfl,tC h];exact if_pos ⟨hp,hn⟩
theorem KC(B:kY X T K cd){A:Around}{E:Value→Shared→Prop}{ρ:aB}{s:Shared}{v w:Value}{init:Int}(Am:aq X s)(R:Rel X ρ σ s.heap)
 (rv:VR X ρ s.heap v (.loc m)) (rw':VR X ρ s.heap w u) (hm:σ[m]?=some (.acc init l)) (hp:u.plain=true) (hn:l.length<64):wpAny (model P X.w) A (call (.builtin "list.append") [v,w] []) (aD X ρ s (σ.set m (.acc init (l++[u]))) .none) E s:=by
 refine aj rv.inv ?_;rintro p rfl e;refine cY ((R.obj m p _ e hm).inv) ?_;rintro a d vs rfl at' rs hpl;have hlen:vs.size=l.length:=rs.length;refine bK at'.inst ?_;intro ox od I _;refine bO (wX B.fM Am R (f:=(·.push w)) (l:=l++[u]) e at' (by rw [toList_push];exact rs.append (.cons rw' .nil)) (by rw [eX] at hpl ⊢;intro x hx;rcases mem_append.mp hx with h|h;exact hpl x h;simp only [mem_singleton] at h;subst h;exact hp)) ?_;intro S A' R'
 obtain⟨nn,t0,hh,kt,e1,e2⟩:=at';refine qT JV (B.keeps _ Am.keeps) I B.ck.jQ (args_list_append _ _) (UW (o:=_) e1 rfl (by lia) ⟨_,rfl,ρ.ah,S,A',R',.none⟩)
theorem KD(B:kY X T K cd){k:Nat}(HC:∀{A:Around} {E:Value→Shared→Prop} {s:Shared} {ρ:aB} {σ:aa} {v:Value} {m:Nat} {init:Int} {l:List V},aT k A→aq X s→Rel X ρ σ s.heap→VR X ρ s.heap v (.loc m)→σ[m]?=some (.acc init l)→l.length<2^20→
 wpAny (model P X.w) A (call (.ref T.count) [v] []) (aD X ρ s σ (.int l.length)) E s):bL X (C0 T) k where
 call:=by
  intro fv us key σ u σ' h A E ρ s f vs kw Rm Am R bg rf rs rk;refine zg h ?_;clear h;intro hk h;obtain rfl:kw=[]:=by
   rcases rk with⟨rfl,_⟩|⟨_,_,_,rfl,_⟩
   ·rfl
   ·exact absurd rfl hk
  cases fv with
  | bi id=>refine bZ h ?_;clear h;intro hid h;subst hid;refine cps fun Z kk=>?_;refine aY h ?_;clear h;intro o x e1 h;refine fL h ?_;clear h;intro m i l e2 h;refine bJ h ?_;clear h;intro hc h;refine kk ?_;clear kk;refine au (Prod.mk.inj h) ?_;rintro rfl rfl;obtain rfl:=qB e1;refine au (qJ e2) ?_;rintro rfl hm;obtain rfl:=rf.inv;refine bw rs.inv ?_;rintro v ws rfl r1 rs;refine bw rs.inv ?_;rintro w ws rfl r2 rs;obtain rfl:=rs.nil_inv;exact KC B Am R r1 r2 hm hc.1 hc.2
  | base a=>refine bZ h ?_;clear h;intro ha h;subst ha;refine cps fun Z kk=>?_;refine aH h ?_;clear h;intro o e1 h;refine fL h ?_;clear h;intro m i l e2 h;refine bJ h ?_;clear h;intro hc h;refine kk ?_;clear kk;refine au (Prod.mk.inj h) ?_;rintro rfl rfl;obtain rfl:=jv e1;refine au (qJ e2) ?_;rintro rfl hm;refine au rf.inv ?_;rintro rfl _;refine bw rs.inv ?_;rintro v ws rfl r1 rs;obtain rfl:=rs.nil_inv;exact HC Rm Am R r1 hm (by lia)
  | _=>exact nn h
 glob:=fun h=>nn h
 keep:=by
  intro fv us key σ r h ρ s f Am rf;replace h:=(Ex h).2;cases fv with
  | bi id=>obtain rfl:=rf.inv;exact⟨.machine,.inr (.inl rfl),u6 (by intro a;simp)⟩
  | base a=>obtain rfl:=(nI h).1;refine au rf.inv ?_;rintro rfl _;exact⟨.frame,.inl rfl,B.Qw _ Am.keeps⟩
  | _=>exact nn h
 res:=by
  intro ov name σ fv h A E ρ s v pl Q Am R r hQ;refine fL h ?_;clear h;intro m i l e2 h;refine au (qJ e2) ?_;rintro rfl hm;refine aj r.inv ?_;rintro p rfl e;refine cY ((R.obj m p _ e hm).inv) ?_;rintro _ _ _ rfl at' rs hpl;refine bK at'.inst ?_;intro ox od I hs;have hK:=B.keeps _ Am.keeps
  by_cases hn:name=("append":Str)
  ·obtain rfl:=Option.some.inj ((if_pos hn).symm.trans h);subst hn;exact Ij hK I B.ck.ga B.ck.gt B.xY B.VC (hs _ (by decide+kernel)) (hQ _ s.toks (.bi _))
  ·refine bJ ((if_neg hn).symm.trans h) ?_;intro hn h';subst h';subst hn;exact qL hK I B.ck.ga B.ck.gt B.ue B.VD (hs _ (by decide+kernel)) (hQ _ s.toks (.base _ B.R5))
 An:=by
  intro ov name σ fv h;refine aH h ?_;clear h;intro _ _ h
  by_cases hn:name=("append":Str)
  ·exact .inl ⟨_,(Option.some.inj ((if_pos hn).symm.trans h)).symm⟩
  ·exact .inr ⟨_,(jO ((if_neg hn).symm.trans h)).2.symm⟩
 lam:=fun h=>nn h
end
section
variable{p0 ap q sp p1 p2 tp:Pos}{σ:aa}{m:Nat}{init:Int}{l:List V}{x y:Str}
variable{X:Ctx}{T:Tables}
theorem Ue{T:Tables}(hl:(ap.endLine==q.line)=true){code:Value}{qual:Str}(hm:σ[m]?=some (.acc init l))(hn:l.length<64) :
 aU (C0 T) 10 { names:=c7 ["self","fws","string"],vals:=[(("self":Str),V.loc m),(("fws":Str),.str x),(("string":Str),.str y)],code:=code,qual:=qual }
  [.Expr (.Call (.Attribute (.Name "self" p0) "append" ap) [.Tuple [.Name "fws" p1,.Name "string" p2] 0 tp] [] q) sp] σ =
 some (.next,{ names:=c7 ["self","fws","string"],vals:=[(("self":Str),V.loc m),(("fws":Str),.str x),(("string":Str),.str y)],code:=code,qual:=qual },σ.set m (.acc init (l++[.tup [.str x,.str y]]))):=by
 let me:ao:={ names:=c7 ["self","fws","string"],vals:=[(("self":Str),V.loc m),(("fws":Str),.str x),(("string":Str),.str y)],code:=code,qual:=qual }
 have e2:b7 (ak (C0 T) 7) me [.Tuple [.Name "fws" p1,.Name "string" p2] 0 tp] σ=some ([.tup [.str x,.str y]],σ):=by kernel_rfl
 have e3:ak (C0 T) 8 me (.Call (.Attribute (.Name "self" p0) "append" ap) [.Tuple [.Name "fws" p1,.Name "string" p2] 0 tp] [] q) σ=some (.none,σ.set m (.acc init (l++[.tup [.str x,.str y]]))):=by
  rw [CY _ _ _ _ _ _ _ _ _ rfl hl (by simp),xT,show cy (C0 T) me "self"=some (V.loc m) by kernel_rfl]
  show ((C0 T).res (.loc m) "append" σ).bind _=_;rw [KG hm,bind_some,e2];exact KA hm rfl hn
 show (((ak (C0 T) 8 me _ σ).bind _:Option (Fl×ao×aa))).bind _=_;rw [e3];rfl
theorem Ud{K:Frag}{cd:ClassData}(B:kY X T K cd){k:Nat}(CO:bL X (C0 T) k){f:Addr}{fd:FuncData}{o:Obj}(MO:MethAt X f [] fd o)(hl:(ap.endLine==q.line)=true)
 (hbody:fd.body=.stmts [.Expr (.Call (.Attribute (.Name "self" p0) "append" ap) [.Tuple [.Name "fws" p1,.Name "string" p2] 0 tp] [] q) sp]) (hloc:∀x∈[("self":Str),("fws":Str),("string":Str)],fd.scope.names.lookup x=some .local)
 (hb:∀(s:Shared) (a b c:Value),aq X s→BindsTo s fd ⟨[a,b,c],[]⟩ [(("self":Str),a),(("fws":Str),b),(("string":Str),c)])
 {A:Around} {E:Value→Shared→Prop} {ρ:aB}  {s:Shared} {v v1 v2:Value}     (Rm:aT (k+1) A) (Am:aq X s) (R:Rel X ρ σ s.heap) (bg:∀a∈ρ.priv,bX s.heap a)
 (rv:VR X ρ s.heap v (.loc m)) (r1:VR X ρ s.heap v1 (.str x)) (r2:VR X ρ s.heap v2 (.str y)) (hm:σ[m]?=some (.acc init l)) (hn:l.length<64) :
 wpAny (model P X.w) A (call (.ref f) [v,v1,v2] []) (aD X ρ s (σ.set m (.acc init (l++[.tup [.str x,.str y]]))) .none) E s:=by
 refine ve MO hbody (ls:=["self","fws","string"]) hloc Rm Am R bg (bs:=[(("self":Str),V.loc m),(("fws":Str),.str x),(("string":Str),.str y)]) (hb s v v1 v2 Am) rfl (.cons rv (.cons r1 (.cons r2 .nil))) (fun b hb=>hloc b.1 ?_) (show ([("self":Str),"fws","string"]:List Str).Nodup by decide+kernel) ?_
 ·simp only [mem_cons,not_mem_nil,or_false] at hb;rcases hb with rfl|rfl|rfl<;>simp
 ·intro env h₁ tk A' bx iy G I;refine PySem.wpAt_of_wpAny (wm (xV B.fM CO 10 (Ue hl hm hn) iy I) (fun fl s' hf=>?_));obtain⟨aO,rf,I',j5,n'⟩:=hf;refine⟨aO,_,_,rf,.inr ⟨rfl,rfl⟩,I',j5.weak fun a ha=>?_⟩;rcases ha with ha|⟨x,hx,_⟩
  ·rw [ha,bx];rfl
  ·exact absurd (lX hx).1 (by decide)
end
section
variable{code:Value}{qual:Str}{m:Nat}{p0 ap q cp ip tp rp c1 c2 c3:Pos}{σ:aa}{init:Int}{l:List V}
variable{X:Ctx}{T:Tables}
theorem Gr:cy (C0 T) { names:=c7 ["self"],vals:=[(("self":Str),V.loc m)],code:=code,qual:=qual } "self"=some (V.loc m):=by kernel_rfl
theorem TY(hl:(ap.endLine==q.line)=true)(hm:σ[m]?=some (.acc init []))(rest:List Stmt) :
 aU (C0 T) 10 { names:=c7 ["self"],vals:=[(("self":Str),V.loc m)],code:=code,qual:=qual }
  (.If (.Compare (.Call (.Attribute (.Name "self" p0) "part_count" ap) [] [] q) [.Eq] [.Constant (.int 0) 0 c1] cp) [.Return (some (.Tuple [.Constant (.str "") 0 c2,.Constant (.str "") 0 c3] 0 tp)) rp] [] ip::rest) σ =
 some (.ret (.tup [.str "",.str ""]),{ names:=c7 ["self"],vals:=[(("self":Str),V.loc m)],code:=code,qual:=qual },σ):=by
 have e1:=Gr (T:=T) (code:=code) (qual:=qual) (m:=m);have e4:=B8 (T:=T) hm;have e5:=B7 (T:=T) hm (zero_le _);have e6:cQ σ .Eq (.int (([]:List V).length:Nat)) (.int 0)=some true:=by kernel_rfl
 have e7:ak (C0 T) 6 { names:=c7 ["self"],vals:=[(("self":Str),V.loc m)],code:=code,qual:=qual } (.Tuple [.Constant (.str "") 0 c2,.Constant (.str "") 0 c3] 0 tp) σ=some (.tup [.str "",.str ""],σ):=by kernel_rfl
 have hb:∀x p,l7 (.Name x p)=true:=fun Z Z=>rfl;simp only [execs_cons,C2,HD,CZ _ _ _ _ _ _ _ _ (hb _ _) hl,xT,CX,LV,e1,e4,e5,e6,e7,map_some,bind_some,if_true]
theorem TZ(hl:(ap.endLine==q.line)=true)(hm:σ[m]?=some (.acc init l))(hn:l.length≤64)(h0:l≠[]) :
 aZ (C0 T) 10 { names:=c7 ["self"],vals:=[(("self":Str),V.loc m)],code:=code,qual:=qual }
  (.If (.Compare (.Call (.Attribute (.Name "self" p0) "part_count" ap) [] [] q) [.Eq] [.Constant (.int 0) 0 c1] cp) [.Return (some (.Tuple [.Constant (.str "") 0 c2,.Constant (.str "") 0 c3] 0 tp)) rp] [] ip) σ =
 some (.next,{ names:=c7 ["self"],vals:=[(("self":Str),V.loc m)],code:=code,qual:=qual },σ):=by
 have e1:=Gr (T:=T) (code:=code) (qual:=qual) (m:=m);have e4:=B8 (T:=T) hm;have e5:=B7 (T:=T) hm hn;have Om:(l.length:Int)≠0:=by cases l<;>simp at h0 ⊢;lia
 have e6:cQ σ .Eq (.int l.length) (.int 0)=some false:=by
  have:decide ((l.length:Int)=0)=false:=by simpa using Om
  rw [←this];kernel_rfl
 have hb:∀x p,l7 (.Name x p)=true:=fun Z Z=>rfl;simp only [execs_nil,C2,HD,CZ _ _ _ _ _ _ _ _ (hb _ _) hl,xT,CX,e1,e4,e5,e6,map_some,bind_some,false_eq_true,if_false]
set_option maxHeartbeats 1000000 in
theorem TX{K:Frag}{cd:ClassData}(B:kY X T K cd){k:Nat}(CO:bL X (C0 T) k){f cc:Addr}{fd:FuncData}{o:Obj}(MS:mJ X f cc fd o)(MO:MethAt X f [(("__class__":Str),cc)] fd o)
 {q0 q1 qa qq rq:Pos} (hl:(ap.endLine==q.line)=true) (hl2:(qa.endLine==qq.line)=true)
 (hbody:fd.body=.stmts [.If (.Compare (.Call (.Attribute (.Name "self" p0) "part_count" ap) [] [] q) [.Eq] [.Constant (.int 0) 0 c1] cp) [.Return (some (.Tuple [.Constant (.str "") 0 c2,.Constant (.str "") 0 c3] 0 tp)) rp] [] ip,
  .Return (some (.Call (.Attribute (.Call (.Name "super" q0) [] [] q1) "pop" qa) [] [] qq)) rq])
 (hpar:kL fd.params=some "self") (hks:fd.scope.names.lookup ("super":Str)=some .globalImplicit) (hkc:fd.scope.names.lookup ("__class__":Str)=some .free) (hka:fd.scope.names.lookup ("self":Str)=some .local)
 (htop:(P.main.scope.names.lookup ("super":Str)).isSome=false) (hb:∀(s:Shared) (a:Value),aq X s→BindsTo s fd ⟨[a],[]⟩ [(("self":Str),a)])
 {A:Around} {E:Value→Shared→Prop} {ρ:aB}  {s:Shared} {v:Value}    (Rm:aT (k+1) A) (Am:aq X s) (R:Rel X ρ σ s.heap) (bg:∀a∈ρ.priv,bX s.heap a)
 (rv:VR X ρ s.heap v (.loc m)) (hm:σ[m]?=some (.acc init l)) (hn:l.length≤64) :
 wpAny (model P X.w) A (call (.ref f) [v] []) (fun w s'=>match l.getLast? with
  | none=>aD X ρ s σ (.tup [.str "",.str ""]) w s'
  | some u=>aD X ρ s (σ.set m (.acc init l.dropLast)) u w s') E s:=by
 have hls:∀x∈[("self":Str)],fd.scope.names.lookup x=some .local :=by intro x hx;simp only [mem_singleton] at hx;rw [hx];exact hka
 have hloc:∀b∈[(("self":Str),V.loc m)],fd.scope.names.lookup b.1=some .local :=by intro b hb;simp only [mem_singleton] at hb;rw [hb];exact hka
 have hnd:([(("self":Str),V.loc m)].map (·.1)).Nodup:=by simp
 have sE:∀{env:Env} {me:ao},me.names=c7 ["self"]→∀a,Own env me a→a=env.locals:=by
  intro env me kj a ha;rcases ha with ha|⟨x,hx,_⟩
  ·exact ha
  ·rw [kj] at hx;exact absurd (lX hx).1 (by decide)
 by_cases h0:l=[]
 ·subst h0;show wpAny _ _ _ (aD X ρ s σ (.tup [.str "",.str ""])) _ _;refine ve MO hbody (ls:=["self"]) hls Rm Am R bg (bs:=[(("self":Str),V.loc m)]) (hb s v Am) rfl (.cons rv .nil) hloc hnd ?_;intro env h₁ tk A' bx iy G I;refine PySem.wpAt_of_wpAny (wm (xV B.fM CO 10 (TY hl hm _) iy I) (fun fl s' hf=>?_));obtain⟨aO,rf,I',j5,n'⟩:=hf;exact⟨aO,_,_,rf,.inl rfl,I',j5.weak fun a ha=>by rw [sE rfl a ha,bx];rfl⟩
 ·obtain⟨u,hu⟩:∃u,l.getLast?=some u:=by
   cases h:l.getLast? with
   | none=>exact absurd (List.getLast?_eq_none_iff.mp h) h0
   | some u=>exact⟨u,rfl⟩
  rw [hu];refine ve MO hbody (ls:=["self"]) hls Rm Am R bg (bs:=[(("self":Str),V.loc m)]) (hb s v Am) rfl (.cons rv .nil) hloc hnd ?_;intro env h₁ tk A' bx iy G I;show PySem.wpAt _ _ _ (exec _ env>>=fun f=>match f with | .next=>execs _ env|f=>pure f) _ _ _
  refine PySem.wpAt_bind (PySem.wpAt_of_wpAny (wm ((ud B.fM CO 10).1 (TZ (c2:=c2) (c3:=c3) (tp:=tp) (rp:=rp) (ip:=ip) (cp:=cp) (c1:=c1) (p0:=p0) hl hm hn h0) iy I) (fun fl s' hf=>?_)));obtain⟨aO,rf,I',j5,n'⟩:=hf;obtain rfl:=rf.inv;refine HP ?_;refine cps fun Z kk=>?_;obtain⟨c,co,ws,t,file,tf,q1,q2,q3,q4,q5,q6,q7⟩:=MS.code;refine kk ?_;clear kk;refine aj (Ga hpar) ?_;intro ar har rJ;have hK:=B.keeps _ I'.aG.keeps;refine bQ MS.cell ?_;intro oc r1 r2 r3;refine aj I'.en.loc ?_;intro mm hns rM;refine aj (rM "self" (.loc m) (by kernel_rfl) (by kernel_rfl)) ?_;intro w hw1 kC
  refine aj kC.inv ?_;rintro p rfl e;refine aj (I'.rel.get e) ?_;intro mo hmo om;obtain rfl:mo=.acc init l:=Option.some.inj (hmo.symm.trans hm);refine cY om.inv ?_;rintro a d vs rfl at' rs hpl;have hlen:vs.size=l.length:=by have:=rs.length;simpa using this
  refine Az (cc:=c) (by rw [bx];exact hks) (by rw [bx];exact hkc) Fd.vg (by rw [bx];rfl) (I'.aG.keep _ _ MS.at' MS.nt) MS.data har (by rw [bx];exact q1) (I'.aG.keep _ _ q2 q3) q4 q6 q7 htop hl2 ?_
  rw [rJ];refine wY B.ck hK at' (cc:=cc) (by rw [bx];exact MS.kind) (by rw [bx];exact hks) (by rw [bx];exact hkc) (by rw [bx];exact hka) (MS.super _ I'.aG.keeps _ (by rw [bx];rfl) (by rw [bx];rfl)) (by rw [bx];rfl)
   ⟨oc,I'.aG.keep _ _ r1 r2,r3⟩ hns hw1 Fd fun b h' t' G' Z hb'=>?_
  have dH:aq X ({ s' with heap:=h',toks:=t' }:Shared):=I'.aG.grown G'
  have R2:=I'.rel.grown G';have at2:AccAt h' a d init vs:=by
   obtain⟨nn,t0,hh,kt,e1,e2⟩:=at';exact⟨nn,t0,hh,kt,G'.keep _ _ e1,G'.keep _ _ e2⟩
  refine aj (rs.get (i:=l.length - 1) (u:=u) (by rw [List.getLast?_eq_getElem?] at hu;exact hu)) ?_;intro x hx rx
  have NL:vs.back?=some x:=by rw [Array.back?_eq_getElem?,hlen];simpa using hx
  have S0:Step X ⟨aO,[s.heap.objs.size]++ρ.priv⟩ ⟨aO,[s.heap.objs.size]++ρ.priv⟩ s'.heap h':=G'.step _;have Ar:=rs.step I'.aG S0;have N4:(vs.eraseIdxIfInBounds (vs.size - 1)).toList=vs.toList.take (l.length - 1):=by
   have h1:vs.size - 1<vs.size:=by
    rw [hlen];exact sub_lt (List.length_pos_iff.mpr h0) (by decide)
   unfold Array.eraseIdxIfInBounds;rw [dif_pos h1,Array.toList_eraseIdx,List.eraseIdx_eq_take_drop_succ,hlen];have:l.length - 1+1=vs.toList.length:=by exact (Nat.sub_add_cancel (List.length_pos_iff.mpr h0)).trans (hlen.symm.trans (length_toList ..).symm)
   rw [this];simp
  obtain⟨S3,A3,R3⟩:=wX B.fM dH R2 (f:=(·.eraseIdxIfInBounds (vs.size - 1))) (l:=l.dropLast) e at2 (by
   rw [N4,List.dropLast_eq_take];exact Ar.take _) (by
   rw [eX] at hpl ⊢;exact fun y hy=>hpl y (List.dropLast_subset l hy))
  refine Ku (s:={ s' with heap:=h',toks:=t' }) B.ck (B.keeps _ dH.keeps) hb' at2 NL (by lia) ?_
  have S4:Step X ⟨aO,[s.heap.objs.size]++ρ.priv⟩ ⟨aO,[s.heap.objs.size]++ρ.priv⟩ s'.heap (h'.update a (mapSeq (·.eraseIdxIfInBounds (vs.size - 1)))):=S0.trans S3
  refine⟨aO,.ret u,_,.ret (rx.step I'.aG S4),.inl rfl,I'.after S4 A3 R3,?_⟩;exact (j5.weak fun a ha=>by rw [sE rfl a ha,bx];rfl).trans S4.fk
end
section
variable{w:World}{K:Frag}{x Cl a sl:Addr}{ox o:Obj}{od:Option Obj}{name:Str}{Q:Option Value→Shared→Prop}{items:Array Value}{n:Nat}{vl vu:Value}{lo hi:Option Int}
variable{X:Ctx}{T:Tables}
section
variable{A:Around}{E:Value→Shared→Prop}{s:Shared}
theorem uR{r:Option Value}(hK:K.In s.heap)(I:InstAt s.heap x ox Cl od)
 (hf:findIn K (.ref Cl) name=some r) (hq:Q r s):wpAny (model P w) A (specialOf (.ref x) name) Q E s:=by
 unfold specialOf;exact wpAny_bind (I.type.here ((looks_findIn hK hf).here hq))
theorem zj{id:String}{args:List Value}(hK:K.In s.heap)(I:InstAt s.heap x ox Cl od)
 (hf:findIn K (.ref Cl) name=some (some (.builtin id))) (hb:bindSpecial (.builtin id) (.ref x)=pure (.builtin id,[.ref x])) (hc:wpAny (model P w) A (call (.builtin id) (.ref x::args)) (fun v=>Q (some v)) E s) :
 wpAny (model P w) A (callSpecial? (.ref x) name args) Q E s:=by
 simp only [callSpecial?];refine wpAny_bind (uR hK I hf ?_);simp only [hb];exact wpAny_holding (wpAny_bind (wpAny_pure (wpAny_bind (wpAny_mono hc (fun v s' h'=>wpAny_pure h') fun Z Z h'=>h'))))
theorem EF{k:Value}{Q:Value→Shared→Prop}(hK:K.In s.heap)(I:InstAt s.heap x ox Cl od)(hm:mroIn K Cl (.type "collections.deque")=some false)
 (hq:Q k s):wpAny (model P w) A (sequenceKey (.ref x) k name) Q E s:=by
 unfold sequenceKey;refine wpAny_bind (I.type.here ?_);dsimp only;refine wpAny_bind ?_;show wpAny _ _ (List.anyM (fun n=>isSubtype (.ref Cl) (.type n)) ["collections.deque"]) _ _ _;refine wpAny_bind ((looks_mroIn hK hm).here ?_);refine wpAny_pure ?_;refine WC rfl ?_;exact wpAny_pure hq
theorem UX{vs:Value}{st:Option Int}{Q:Fin→Shared→Prop}(ho:s.heap.get? a=some o)(hd:o.data=.seq items n)
 (hs:s.heap.IsSliceOf sl vl vu vs) (pl:IsPart vl lo) (pu:IsPart vu hi) (ps:IsPart vs st) (h0:st≠some 0) (hsz:items.size≤sizeLine)
 (h:Q (.done (.ret (.ref s.heap.objs.size))) { s with heap:=s.heap.push { cls:=.type "list",data:=.seq (slicePick items lo hi st) } }) :
 wpAny (model P w) A (Builtin.«list.__getitem__» ⟨[.ref a,.ref sl],[]⟩) Q E s:=by
 refine bQ (id hs) ?_;intro os hos hcs hds;have ki:s.TypeIs (.ref sl) "slice":=⟨os,hos,hcs⟩;show wpAny _ _ (Builtin.List.listSubscript? (.ref sl)>>=_) _ _ s;refine wpAny_bind ?_
 ·unfold Builtin.List.listSubscript?;refine wpAny_bind (wpAny_specialOf ki slice_no_index ?_);refine wpAny_pure ?_;show wpAny _ _ (typeOf (.ref sl)>>=_) _ _ s;refine wpAny_bind (wpAny_typeOf ki ?_);rw [if_neg (by decide)]
  rw [listSliceParts_eq];have hstep:¬((rawPart st==rawInt 0)=true):=by
   cases st with
   | none=>exact Bool.false_ne_true
   | some c=>
    intro hh;have:c=0:=by simpa [rawPart,rawInt] using hh
    exact h0 (by rw [this])
  refine wpAny_bind (wpAny_bind (wpAny_field hos hds (x:=vs) rfl (wpAny_bind (wpAny_listPart ps ?_))));rw [if_neg hstep];refine wpAny_bind (wpAny_field hos hds (x:=vl) rfl (wpAny_bind (wpAny_listPart pl ?_)));refine wpAny_bind (wpAny_field hos hds (x:=vu) rfl (wpAny_bind (wpAny_listPart pu (wpAny_pure ?_))));refine wpAny_bind (m:=Builtin.List.listItems (.ref a)) ?_
  ·unfold Builtin.List.listItems;refine wpAny_bind (wpAny_seqItems ho hd (wpAny_pure ?_));refine wpAny_bind (wpAny_of_eq (sliceIndices_raw lo hi st items.size h0) ?_);refine wpAny_bind (wpAny_newObj_type (wpAny_pure h) (le_trans (slicePick_size_le items lo hi st) hsz))
theorem C3{α:Type}(xs:Array α)(i j:Nat):(xs.extract i j).size≤xs.size:=by rw [Array.size_extract];exact le_trans (sub_le _ _) (Nat.min_le_right _ _)
theorem U1{b:Addr}{new:Array Value}{Q:Fin→Shared→Prop}(ho:s.heap.get? a=some o)(hd:o.data=.seq items n)
 (hs:s.heap.IsSliceOf sl vl vu .none) (pl:IsPart vl lo) (pu:IsPart vu hi) (hsz:items.size≤2^20) (hb:s.heap.IsList b new) (hnew:new.size≤2^20) (hab:a≠b)
 (h:Q (.done (.ret .none)) { s with heap:=s.heap.update a (mapSeq fun xs=>xs.extract 0 (sliceBounds lo hi none items.size).1.toNat++new++xs.extract (max (sliceBounds lo hi none items.size).1 (sliceBounds lo hi none items.size).2.1).toNat xs.size) }) :
 wpAny (model P w) A (Builtin.«list.__setitem__» ⟨[.ref a,.ref sl,.ref b],[]⟩) Q E s:=by
 refine bQ (id hs) ?_;intro os hos hcs hds;have ki:s.TypeIs (.ref sl) "slice":=⟨os,hos,hcs⟩;show wpAny _ _ (Builtin.List.listSubscript? (.ref sl)>>=_) _ _ s;refine wpAny_bind ?_
 ·unfold Builtin.List.listSubscript?;refine wpAny_bind (wpAny_specialOf ki slice_no_index ?_);refine wpAny_pure ?_;show wpAny _ _ (typeOf (.ref sl)>>=_) _ _ s;refine wpAny_bind (wpAny_typeOf ki ?_);rw [if_neg (by decide)]
  rw [listSliceParts_eq];refine wpAny_bind (wpAny_bind (wpAny_field hos hds (x:=.none) rfl (wpAny_bind (wpAny_listPart .none ?_))));rw [if_neg (by decide)]
  refine wpAny_bind (wpAny_field hos hds (x:=vl) rfl (wpAny_bind (wpAny_listPart pl ?_)));refine wpAny_bind (wpAny_field hos hds (x:=vu) rfl (wpAny_bind (wpAny_listPart pu (wpAny_pure ?_))));have hsame:Builtin.List.listSameRef (.ref a) (.ref b)=false:=by
   show (a==b)=false;simpa using hab
  dsimp only;rw [if_neg (by rw [hsame];exact Bool.false_ne_true)]
  obtain⟨ob,hob,hcb,nb,hdb⟩:=hb;refine wpAny_bind ?_
  ·unfold Builtin.List.listAllItems;refine wpAny_bind (wpAny_typeOf (T:="list") ⟨ob,hob,hcb⟩ ?_);rw [if_pos (by decide+kernel)]
   refine listItems_at hob hdb ?_;refine wpAny_bind (m:=Builtin.List.listItems (.ref a)) (listItems_at ho hd ?_);refine wpAny_bind (wpAny_of_eq (sliceIndices_raw lo hi none items.size (by simp)) ?_)
   have hst:(sliceBounds lo hi none items.size).2.2=1:=rfl;rw [hst,if_pos (by decide)]
   refine wpAny_bind (wpAny_rule ?_);rw [if_neg (by
    have h1:Builtin.List.listTooLong (items.size+new.size)=decide (items.size+new.size>sizeLine):=rfl;rw [h1,decide_eq_true_eq];exact not_lt.mpr (le_trans (add_le_add hsz hnew) (by decide)))]
   refine wpAny_bind (listUpdate_at ho hd (wpAny_bind (wpAny_letGo (wpAny_pure h))) (by have hsl:sizeLine=2^24:=rfl;lia) ?_)
   show (items.extract _ _++new++items.extract _ items.size).size≤_;rw [Array.size_append,Array.size_append];exact le_trans (add_le_add (add_le_add (le_trans (C3 ..) hsz) hnew) (le_trans (C3 ..) hsz)) (by decide)
end
end
section
variable{w:World}{K:Frag}{x Cl sl:Addr}{ox:Obj}{od:Option Obj}{items:Array Value}{n:Nat}{vl vu:Value}{lo hi:Option Int}{Q:Value→Shared→Prop}
variable{X:Ctx}{T:Tables}
theorem JX:mG "list.__getitem__" "__getitem__" Builtin.«list.__getitem__»:=⟨by decide+kernel,by decide+kernel,entry_list_getitem,by decide+kernel⟩
theorem JY:mG "list.__setitem__" "__setitem__" Builtin.«list.__setitem__»:=⟨by decide+kernel,by decide+kernel,entry_list_setitem,by decide+kernel⟩
section
variable{A:Around}{E:Value→Shared→Prop}{s:Shared}
theorem PB{vs:Value}{st:Option Int}(hK:K.In s.heap)(I:InstAt s.heap x ox Cl od)
 (hd:ox.data=.seq items n) (hL:mroIn K Cl (.type "list")=some true) (yC:mroIn K Cl (.type "collections.deque")=some false) (hf:findIn K (.ref Cl) "__getitem__"=some (some (.builtin "list.__getitem__")))
 (hs:s.heap.IsSliceOf sl vl vu vs) (pl:IsPart vl lo) (pu:IsPart vu hi) (ps:IsPart vs st) (h0:st≠some 0) (hsz:items.size≤sizeLine)
 (h:Q (.ref s.heap.objs.size) { s with heap:=s.heap.push { cls:=.type "list",data:=.seq (slicePick items lo hi st) } }):wpAny (model P w) A (getItem (.ref x) (.ref sl)) Q E s:=by
 unfold getItem;refine wpAny_holding ?_;refine wpAny_bind (EF hK I yC ?_);refine wpAny_bind (zj hK I hf (slot_list_getitem.bind _) (qT JX hK I hL (args_list_getitem _ _) (UX I.at_ hd hs pl pu ps h0 hsz ⟨_,rfl,?_⟩)));exact wpAny_pure h
theorem PF{b:Addr}{new:Array Value}{Q:Unit→Shared→Prop}(hK:K.In s.heap)(I:InstAt s.heap x ox Cl od)
 (hd:ox.data=.seq items n) (hL:mroIn K Cl (.type "list")=some true) (yC:mroIn K Cl (.type "collections.deque")=some false) (hf:findIn K (.ref Cl) "__setitem__"=some (some (.builtin "list.__setitem__")))
 (hs:s.heap.IsSliceOf sl vl vu .none) (pl:IsPart vl lo) (pu:IsPart vu hi) (hsz:items.size≤2^20) (hb:s.heap.IsList b new) (hnew:new.size≤2^20) (hab:x≠b)
 (h:Q () { s with heap:=s.heap.update x (mapSeq fun xs=>xs.extract 0 (sliceBounds lo hi none items.size).1.toNat++new++xs.extract (max (sliceBounds lo hi none items.size).1 (sliceBounds lo hi none items.size).2.1).toNat xs.size) }) :
 wpAny (model P w) A (setItem (.ref x) (.ref sl) (.ref b)) Q E s:=by
 unfold setItem;refine wpAny_holding ?_;refine wpAny_bind (EF hK I yC ?_);refine wpAny_bind (zj hK I hf (slot_list_setitem.bind _) (qT JY hK I hL (args_list_setitem _ _ _) (U1 I.at_ hd hs pl pu hsz hb hnew hab ⟨_,rfl,?_⟩)));exact wpAny_pure h
theorem PI{value slice:Expr}{i:Value}(hK:K.In s.heap)(I:InstAt s.heap x ox Cl od)
 (hf:findIn K (.ref Cl) "__getitem__"=some (some (.builtin "list.__getitem__"))) (hg:wpAny (model P w) A (getItem (.ref x) i) Q E s):wpAny (model P w) A (subscriptTail value slice (.ref x) i) Q E s:=by
 refine aA (Ax slice (.ref x) i) ?_;intro ops nv;unfold subscriptTail;refine wpAny_bind ?_;rw [getitemInPython_of_ne (by intro z;cases z)]
 refine wpAny_bind (uR hK I hf ?_);have fin:wpAny (model P w) A (subscripted slice false (.ref x) i) (fun r s₃=>wpAny (model P w) A (letTemporaryGo value (.ref x) r>>=fun Z=>pure r) Q E s₃) E s:=by
  rw [nv];exact wpAny_operating (wm hg (fun r s₃ h₃=>wpAny_bind (wpAny_letTemporaryGo (wpAny_pure h₃))))
 first
  | exact wpAny_pure (wpAny_bind fin)
  | exact wpAny_bind (wpAny_pure (wpAny_bind fin))
end
theorem B6(i:Int)(n:Nat)(h0:0≤i):sliceBounds (some i) none none n=(min i n,(n:Int),1):=by
 have:¬i<0:=Int.not_lt.mpr h0;simp only [sliceBounds,Option.getD_none,show (1:Int)>0 by decide,if_true,this,if_false]
 rw [Int.max_eq_right (Int.le_min.mpr ⟨h0,natCast_nonneg n⟩)]
theorem FI(k n:Nat):min (k:Int) n=((min k n:Nat):Int):=by
 by_cases h:k≤n
 ·rw [min_eq_left h,Int.min_eq_left (ofNat_le.mpr h)]
 ·have h:=Nat.le_of_not_le h;rw [Nat.min_eq_right h,Int.min_eq_right (ofNat_le.mpr h)]
theorem pick_from(items:Array Value)(i:Int)(h0:0≤i):slicePick items (some i) none none=(items.toList.drop i.toNat).toArray:=by
 unfold slicePick;rw [B6 i _ h0];dsimp only;refine aA (Int.eq_ofNat_of_zero_le h0) ?_;rintro k rfl;have e:min (k:Int) items.size=((min k items.size:Nat):Int):=FI ..;rw [e,sliceRange_one,pick_run];congr 1;rw [take_of_length_le (by simp)]
 simp only [toNat_natCast]
 by_cases hk:k≤items.size
 ·rw [min_eq_left hk]
 ·rw [Nat.min_eq_right (by omega),List.drop_of_length_le (by simp),List.drop_of_length_le (by simp;omega)]
theorem Ll(items:Array Value)(i:Int)(h0:0≤i):(items.extract 0 (sliceBounds (some i) none none items.size).1.toNat++#[]++items.extract (max (sliceBounds (some i) none none items.size).1 (sliceBounds (some i) none none items.size).2.1).toNat items.size).toList=items.toList.take i.toNat:=by
 rw [B6 i _ h0];dsimp only;refine aA (Int.eq_ofNat_of_zero_le h0) ?_;rintro k rfl;have e0:min (k:Int) items.size=((min k items.size:Nat):Int):=FI ..;have e2:(max (min (k:Int) items.size) items.size).toNat=items.size:=by rw [Int.max_eq_right (Int.min_le_right ..)];rfl
 have e1:(min (k:Int) items.size).toNat=min k items.size:=by rw [e0];rfl
 rw [e1,e2];simp only [Array.append_empty,toList_append,Array.toList_extract,List.extract_eq_drop_take,toNat_natCast];simp
end
section
variable{X:Ctx}{T:Tables}
structure A6(K:Frag):Prop where
 get:findIn K (.ref aN) "__getitem__"=some (some (.builtin "list.__getitem__"))
 set:findIn K (.ref aN) "__setitem__"=some (some (.builtin "list.__setitem__"))
 tV:mroIn K aN (.type "collections.deque")=some false
theorem AccAt.seq{h:Heap}{a d:Addr}{init:Int}{vs:Array Value}(x:AccAt h a d init vs):∃ox od n,InstAt h a ox aN (some od)∧ox.data=.seq vs n:=by
 obtain⟨nn,t,hh,kt,e1,e2⟩:=x;exact⟨_,_,nn,⟨e1,rfl,rfl,e2⟩,rfl⟩
set_option maxHeartbeats 1000000 in
theorem T4{K:Frag}{cd:ClassData}(B:kY X T K cd)(BI:A6 K){k:Nat}(CO:bL X (C0 T) k){f:Addr}{fd:FuncData}{o:Obj}(MO:MethAt X f [] fd o)
 {p1 p2 p3 p4 p5 p6 q1 q2 q3 q4 q5 q6 r1 r2:Pos}
 (hbody:fd.body=.stmts [.Assign [.Name "popped" p1] (.Subscript (.Name "self" p2) (.Slice (some (.Name "i" p3)) none none p4) p5) p6,
  .Assign [.Subscript (.Name "self" q1) (.Slice (some (.Name "i" q2)) none none q3) q4] (.List [] q5) q6,.Return (some (.Name "popped" r1)) r2])
 (hloc:∀x∈[("self":Str),("i":Str),("popped":Str)],fd.scope.names.lookup x=some .local) (hb:∀(s:Shared) (a b:Value),aq X s→BindsTo s fd ⟨[a,b],[]⟩ [(("self":Str),a),(("i":Str),b)])
 {A:Around} {E:Value→Shared→Prop} {ρ:aB} {σ:aa} {s:Shared} {v v1:Value} {m:Nat} {i:Int} {init:Int} {l:List V} (Rm:aT (k+1) A) (Am:aq X s) (R:Rel X ρ σ s.heap) (bg:∀a∈ρ.priv,bX s.heap a)
 (rv:VR X ρ s.heap v (.loc m)) (UO:VR X ρ s.heap v1 (.int i)) (hm:σ[m]?=some (.acc init l)) (h0:0≤i) (hn:l.length≤64) :
 wpAny (model P X.w) A (call (.ref f) [v,v1] []) (aD X ρ s (σ.set m (.acc init (l.take i.toNat))) (.lst (l.drop i.toNat))) E s:=by
 refine ve MO hbody (ls:=["self","i","popped"]) hloc Rm Am R bg (bs:=[(("self":Str),V.loc m),(("i":Str),.int i)]) (hb s v v1 Am) rfl (.cons rv (.cons UO .nil)) (fun b hb=>hloc b.1 ?_) (show ([("self":Str),"i"]:List Str).Nodup by decide+kernel) ?_
 ·simp only [mem_cons,not_mem_nil,or_false] at hb;rcases hb with rfl|rfl<;>simp
 ·intro env h₁ tk A' bx iy G I;have sE:∀{me:ao},me.names=c7 ["self","i","popped"]→∀a,Own env me a→a=s.heap.objs.size:=by
   intro me kj a ha;rcases ha with ha|⟨x,hx,_⟩
   ·rw [ha,bx];rfl
   ·rw [kj] at hx;exact absurd (lX hx).1 (by decide)
  refine PySem.wpAt_of_wpAny (wpAny_execs_cons ?_);refine wpAny_mono (Q:=cO X s.heap ρ env { names:=c7 ["self","i","popped"],vals:=[(("self":Str),V.loc m),(("i":Str),.int i)],code:=.none,qual:=fd.qualname++".<locals>." } ⟨ρ.ah,[s.heap.objs.size]++ρ.priv⟩ { s with heap:=h₁,toks:=tk } (fun a=>a=s.heap.objs.size) .next
   {names:=c7 ["self","i","popped"],vals:=[(("self":Str),V.loc m),(("i":Str),.int i),(("popped":Str),.lst (l.drop i.toNat))],code:=.none,qual:=fd.qualname++".<locals>." } σ) ?_ (fun fl s₁ hf=>?_) (fun Z Z x=>x)
  ·refine wpAny_Assign_Name (Subscript_ (gW CO (u:=.loc m) (by kernel_rfl) I.aG I.en (fun w rw'=>?_)).2) rfl
   refine wpAny_Slice ?_;rw [evalPart_some];refine (gW CO (u:=.int i) (by kernel_rfl) I.aG I.en (fun wi ri=>?_)).2
   rw [evalPart_none];refine wpAny_pure ?_;refine wpAny_pure ?_;refine aj rw'.inv ?_;rintro p rfl e;refine aj (I.rel.get e) ?_;intro mo hmo om;obtain rfl:mo=.acc init l:=Option.some.inj (hmo.symm.trans hm);refine cY om.inv ?_;rintro a d vs rfl at' rs hpl;refine aA ri.inv ?_;rintro ti rfl;have hlen:vs.size=l.length:=by have:=rs.length;simpa using this
   have G2:=aM.push h₁ { cls:=.type "slice",data:=.fields #[.int i ti,.none,.none] };refine bG at'.seq ?_;intro ox od nn Ia hd;have s7:InstAt (h₁.push { cls:=.type "slice",data:=.fields #[.int i ti,.none,.none] }) a ox aN (some od):=⟨G2.keep _ _ Ia.at_,Ia.cls,Ia.no,by
    have:=Ia.dict;revert this;cases ox.dict<;>simp
    exact fun z=>G2.keep _ _ z⟩
   have hsl:sizeLine=2^24:=rfl;have dH:aq X ({ s with heap:=h₁.push { cls:=.type "slice",data:=.fields #[.int i ti,.none,.none] },toks:=tk }:Shared):=I.aG.grown G2
   refine PI (B.keeps _ dH.keeps) s7 BI.get (PB (B.keeps _ dH.keeps) s7 hd B.ck.jQ BI.tV BI.get (IsSliceOf.new _ _ _ _) (.int i ti) .none .none (by simp) (by rw [hsl];lia) ?_)
   rw [pick_from _ _ h0];have G3:=aM.push (h₁.push { cls:=.type "slice",data:=.fields #[.int i ti,.none,.none] }) { cls:=.type "list",data:=.seq (vs.toList.drop i.toNat).toArray };have wz:aq X ({ s with heap:=(h₁.push { cls:=.type "slice",data:=.fields #[.int i ti,.none,.none] }).push { cls:=.type "list",data:=.seq (vs.toList.drop i.toNat).toArray },toks:=tk }:Shared):=dH.grown G3
   have S3:Step X ⟨ρ.ah,[s.heap.objs.size]++ρ.priv⟩ ⟨ρ.ah,[s.heap.objs.size]++ρ.priv⟩ h₁ ((h₁.push { cls:=.type "slice",data:=.fields #[.int i ti,.none,.none] }).push { cls:=.type "list",data:=.seq (vs.toList.drop i.toNat).toArray }):=(G2.trans G3).step _;have R3:=I.rel.grown (G2.trans G3);have I3:=I.after (s₁:={ s with heap:=(h₁.push { cls:=.type "slice",data:=.fields #[.int i ti,.none,.none] }).push { cls:=.type "list",data:=.seq (vs.toList.drop i.toNat).toArray },toks:=tk }) S3 wz R3
   refine oh B.fM I3 (u:=.lst (l.drop i.toNat)) (.lst ⟨0,get?_push_size _ rfl⟩ (fun yO=>?_) ?_) (by kernel_rfl) (show (c7 [("self":Str),"i","popped"]).lookup ("popped":Str)≠some .free by decide+kernel) ?_ fun s' I' F=>⟨ρ.ah,.next,I',(S3.fk.trans F).weak fun b hb=>sE rfl b hb,rfl⟩
   ·have:=(I.rel.grown G2).lt _ yO;exact lt_irrefl _ this
   ·exact ((rs.drop _).step I.aG S3)
   ·show V.bD _=true;rw [eX] at hpl ⊢;exact fun y hy=>hpl y (List.drop_subset _ _ hy)
  ·obtain⟨cu,rf,I₁,F₁,n₁⟩:=hf;obtain rfl:=rf.inv;dsimp only;refine wpAny_execs_cons ?_;refine wpAny_mono (Q:=cO X s.heap ρ env { names:=c7 ["self","i","popped"],vals:=[(("self":Str),V.loc m),(("i":Str),.int i),(("popped":Str),.lst (l.drop i.toNat))],code:=.none,qual:=fd.qualname++".<locals>." } ⟨cu,[s.heap.objs.size]++ρ.priv⟩ s₁ (fun a=>a=s.heap.objs.size) .next
    {names:=c7 ["self","i","popped"],vals:=[(("self":Str),V.loc m),(("i":Str),.int i),(("popped":Str),.lst (l.drop i.toNat))],code:=.none,qual:=fd.qualname++".<locals>." } (σ.set m (.acc init (l.take i.toNat)))) ?_ (fun fl s₂ hf=>?_) (fun Z Z x=>x)
   ·refine wpAny_Assign_Subscript (wpAny_List (spliced_nil ⟨zero_le _,?_⟩)) rfl;have G1:=aM.push s₁.heap { cls:=.type "list",data:=.seq (toArray ([]:List Value)) };have iu:aq X ({ s₁ with heap:=s₁.heap.push { cls:=.type "list",data:=.seq (toArray ([]:List Value)) } }:Shared):=I₁.aG.grown G1
    have I1:=I₁.after (s₁:={ s₁ with heap:=s₁.heap.push { cls:=.type "list",data:=.seq (toArray ([]:List Value)) } }) (G1.step _) iu (I₁.rel.grown G1)
    refine (gW CO (u:=.loc m) (by kernel_rfl) iu I1.en (fun w rw'=>?_)).2
    refine wpAny_Slice ?_;rw [evalPart_some];refine (gW CO (u:=.int i) (by kernel_rfl) iu I1.en (fun wi ri=>?_)).2
    rw [evalPart_none];refine wpAny_pure ?_;refine wpAny_pure ?_;refine aj rw'.inv ?_;rintro p rfl e;refine aj (I1.rel.get e) ?_;intro mo hmo om;obtain rfl:mo=.acc init l:=Option.some.inj (hmo.symm.trans hm);refine cY om.inv ?_;rintro a d vs rfl at' rs hpl;refine aA ri.inv ?_;rintro ti rfl;have hlen:vs.size=l.length:=by have:=rs.length;simpa using this
    have G2:=aM.push (s₁.heap.push { cls:=.type "list",data:=.seq (toArray ([]:List Value)) }) { cls:=.type "slice",data:=.fields #[.int i ti,.none,.none] };have dH:aq X ({ s₁ with heap:=(s₁.heap.push { cls:=.type "list",data:=.seq (toArray ([]:List Value)) }).push { cls:=.type "slice",data:=.fields #[.int i ti,.none,.none] } }:Shared):=iu.grown G2
    have R2:=I1.rel.grown G2;have at2:AccAt ((s₁.heap.push { cls:=.type "list",data:=.seq (toArray ([]:List Value)) }).push { cls:=.type "slice",data:=.fields #[.int i ti,.none,.none] }) a d init vs:=by
     obtain⟨nn,t0,hh,kt,e1,e2⟩:=at';exact⟨nn,t0,hh,kt,G2.keep _ _ e1,G2.keep _ _ e2⟩
    refine bG at2.seq ?_;intro ox od nn s7 hd;have Ar:=rs.step iu (G2.step ⟨cu,[s.heap.objs.size]++ρ.priv⟩);have hne:a≠s₁.heap.objs.size:=by
     have:=I₁.rel.lt a (aI.mpr (.inl (dj.mpr ⟨_,mem_of_getElem? e,.inl rfl⟩)));exact ne_of_lt this
    have Oq:PL ((s₁.heap.push { cls:=.type "list",data:=.seq (toArray ([]:List Value)) }).push { cls:=.type "slice",data:=.fields #[.int i ti,.none,.none] }) s₁.heap.objs.size #[]:=⟨0,G2.keep _ _ (get?_push_size _ rfl)⟩;obtain⟨S3,A3,R3⟩:=wX B.fM dH R2 (f:=fun xs=>xs.extract 0 (sliceBounds (some i) none none vs.size).1.toNat++#[]++xs.extract (max (sliceBounds (some i) none none vs.size).1 (sliceBounds (some i) none none vs.size).2.1).toNat xs.size) (l:=l.take i.toNat) e at2 (by
     show aC _ _ _ (Array.toList (vs.extract _ _++_++vs.extract _ vs.size)) _;rw [Ll _ _ h0];exact Ar.take _) (by
     rw [eX] at hpl ⊢;exact fun y hy=>hpl y (List.take_subset _ _ hy))
    refine PF (s:={ s₁ with heap:=(s₁.heap.push { cls:=.type "list",data:=.seq (toArray ([]:List Value)) }).push { cls:=.type "slice",data:=.fields #[.int i ti,.none,.none] } }) (B.keeps _ dH.keeps) s7 hd B.ck.jQ BI.tV BI.set (IsSliceOf.new _ _ _ _) (.int i ti) .none (by lia) Oq.is (by simp) hne ?_
    have S4:=((G1.trans G2).step ⟨cu,[s.heap.objs.size]++ρ.priv⟩).trans S3;exact⟨cu,.next,I₁.after S4 A3 R3,S4.fk,rfl⟩
   ·obtain⟨nL,rf,I₂,F₂,n₂⟩:=hf;obtain rfl:=rf.inv;dsimp only;refine wpAny_execs_cons (wpAny_Return_some ((gW CO (u:=.lst (l.drop i.toNat)) (by kernel_rfl) I₂.aG I₂.en (fun w rw'=>?_)).2))
    exact⟨nL,_,_,.ret rw',.inl rfl,I₂,F₁.trans F₂⟩
end
section
variable{X:Ctx}{T:Tables}
noncomputable def vc(K:Frag)(C:Addr):Bool:=match K.lookup C with
 | some ⟨_,_,.cls cd,sl⟩=>!cd.abstract&&!cd.hasDel&&(sl.toList[4]?).join==some (.builtin "list.__new__")&&!cd.mro.isEmpty&&cd.mro.contains (.ref C)&&cd.mro.contains (.type "list")&&
  specialIn K (.ref C) "__call__"==some (some (.builtin "type.__call__"))&&instIn K (.ref C) (.type "type")==some true
 | _=>false
structure wL(M:Model)(h:Heap)(C:Addr):Prop where
 obj:∃oc od cd sl,h.get? C=some ⟨oc,od,.cls cd,sl⟩∧cd.abstract=false∧cd.hasDel=false∧cd.mro.isEmpty=false
 made:Looks M h (Bind.madeBy (.ref C)) (some "list.__new__")
 base:Looks M h (Bind.staticBase (.ref C)) (.ref C)
 self:Looks M h (isSubtype (.ref C) (.ref C)) true
 top:Looks M h (isSubtype (.ref C) (.type "list")) true
 call:Looks M h (specialOf (.ref C) "__call__") (some (.builtin "type.__call__"))
 typ:Looks M h (isInstance (.ref C) (.type "type")) true
theorem Rz{K:Frag}{M:Model}{h:Heap}(X:K.In h){C:Addr}(e:vc K C=true):wL M h C:=by
 unfold vc at e;cases ho:K.lookup C with
 | none=>rw [ho] at e;exact ff e
 | some o=>
  obtain⟨oc,od,da,sl⟩:=o;cases da with
  | cls cd=>
   rw [ho] at e;dsimp only at e;simp only [and_eq_true,not_eq_true',beq_iff_eq] at e;refine au e ?_;clear e;intro hh;refine au hh ?_;clear hh;intro hh;refine au hh ?_;clear hh;intro hh;refine au hh ?_;clear hh;intro hh;refine au hh ?_;clear hh;intro hh;refine au hh ?_;clear hh;intro hh;refine au hh ?_;clear hh;intro e1 e2;intro e3;intro e4;intro e5;intro e6;intro e7;intro e8;have hc:clsIn K C=some cd:=by unfold clsIn;rw [ho]
   have hm:Looks M h (mroOf (.ref C)) cd.mro:=(looks_clsIn X hc).andThen .now;obtain⟨c,l,hl⟩:∃c l,cd.mro=c::l:=by cases q:cd.mro with|nil=>rw [q] at e4;cases e4|cons c l=>exact⟨c,l,rfl⟩
   have made:Looks M h (Bind.madeBy (.ref C)) (some "list.__new__"):=by
    intro A Q E s k q;unfold Bind.madeBy;refine wpAny_bind (hm A _ E s k ?_);rw [hl,forIn_cons];refine wpAny_bind (wpAny_bind (wpAny_bind (wpAny_bind (wpAny_loadPart (k _ _ (X _ _ ho)) (wpAny_pure ?_)))));dsimp only;rw [←getElem?_toList,e3];exact wpAny_pure (wpAny_pure (wpAny_pure q))
   refine⟨⟨oc,od,cd,sl,X _ _ ho,e1,e2,e4⟩,made,?_,looks_mroIn X ?_,looks_mroIn X ?_,looks_specialIn X e7,looks_instIn X e8⟩
   ·intro A Q E s k q;unfold Bind.staticBase;refine wpAny_bind (hm A _ E s k ?_);rw [hl,forIn_cons];exact wpAny_bind (wpAny_bind (wpAny_bind (made A _ E s k (wpAny_pure (wpAny_pure (wpAny_pure q))))))
   ·unfold mroIn;rw [hc,bind_some,if_neg (by rw [e4];decide),e5]
   ·unfold mroIn;rw [hc,bind_some,if_neg (by rw [e4];decide),e6]
  | _=>rw [ho] at e;exact ff e
noncomputable abbrev gj(C dx:Addr):Obj:={ cls:=.ref C,dict:=some dx,data:=.seq #[] }
theorem IP(C:Addr)(i:Int)(t:Tok):(Manifest.signature? "list.__new__").map (fun sg=>Bind.checkArgs "list.__new__" sg ⟨[.ref C,.int i t],[]⟩)=some (pure ()):=by kernel_rfl
theorem entry_list_new:entryFor table "list.__new__"=some Builtin.«list.__new__»:=entryFor_of_tree (by kernel_rfl)
theorem QA:builtinKind "list.__new__"=some .builtinFn:=by decide+kernel
theorem Vg:splitId "list.__new__"=some ("list","__new__"):=by decide+kernel
section
variable{w:World}{A:Around}{C:Addr}{R:Result→Shared→Prop}{h:Heap}{g:Array GenState}{d:Drawn}{t:Nat}{os:OsState}
theorem R8{i:Int}{ti:Tok}(Y:wL (model P w) h C)
 (hq:R (.ok (.ret (.ref (h.objs.size+1)))) ⟨(h.push emptyDict).push (gj C h.objs.size),g,d,t,os⟩) :
 codeAny (model P w) A (.call (.builtin "list.__new__") ⟨[.ref C,.int i ti],[]⟩) R ⟨h,g,d,t,os⟩:=by
 obtain⟨⟨oc,od,cd,sl,hC,e1,e2,e4⟩,made,base,self,top,call,typ⟩:=Y;have hargs:=IP C i ti;refine codeAny_call_builtin_code (Code.quiet_builtin _ (by decide+kernel)) ?_
 cases lN:Manifest.signature? "list.__new__" with
 | none=>rw [lN] at hargs;cases hargs
 | some sg=>
  rw [lN] at hargs;simp only [map_some,Option.some.injEq] at hargs;unfold checkBuiltinCall;rw [QA,Vg,lN];dsimp only;rw [hargs]
  repeat (first|(with_reducible refine fH (bne_self_eq_false _) ?_)|(with_reducible refine fH rfl ?_)|lk)
  refine PySem.codeAny_builtinAt entry_list_new ?_;have hown:=owner_list_new;unfold Builtin.«list.__new__»;refine PySem.wpAt_bind (PySem.wpAt_stack fun p below=>PySem.wpAt_of_wpAny ?_);dsimp only;rw [hown]
  repeat (first|(with_reducible refine fH rfl ?_)|lk)
  refine wpAny_load (get?_push_of_some _ (get?_push_of_some _ hC)) (wpAny_pure ?_);rw [e2,if_neg Bool.false_ne_true];refine wpAny_pure (wpAny_pure ?_);show R _ _;rw [size_push];exact hq
theorem Rx{i:Int}{ti:Tok}{init:Value}(Y:wL (model P w) h C)(hi:Looks (model P w) h (typeLookup (.ref C) "__init__") (some init))
 (hb:∀self,Looks (model P w) h (bindSpecial init self) (init,[self]))
 (hq:codeAny (model P w) (A.under (.builtin "type.__call__" ⟨[.ref C,.int i ti],[]⟩)) (.call init ⟨[.ref (h.objs.size+1),.int i ti],[]⟩) (InitBack (h.objs.size+1) R) ⟨(h.push emptyDict).push (gj C h.objs.size),g,d,t,os⟩) :
 codeAny (model P w) A (.call (.ref C) ⟨[.int i ti],[]⟩) R ⟨h,g,d,t,os⟩:=by
 have Y':=Y;obtain⟨⟨oc,od,cd,sl,hC,e1,e2,e4⟩,made,base,self,top,call,typ⟩:=Y;refine codeAny_of_tree ?_;show wpAny _ _ (callAny (.ref C) _) _ _ _;refine nd_load hC ?_;show wpAny _ _ (callAny.viaDunder (.ref C) _) _ _ _;unfold callAny.viaDunder;refine wpAny_bind (call.at ?_);dsimp only;rw [tc_bind];refine wpAny_bind (wpAny_pure (wpAny_bind (wpAny_pure ?_)));refine wpAny_pure (a:=Fin.again (.call (.builtin "type.__call__") ⟨[.ref C,.int i ti],[]⟩)) (And.intro rfl ?_);refine codeAny_call_builtin_at (Code.quiet_builtin _ (by decide+kernel)) entry_typeCall (check_slot tc_kind tc_split typ (tc_args _ _ _) ?_)
 unfold Builtin.«type.__call__»;have hm:Looks (model P w) h (mroOf (.ref C)) cd.mro:=((Looks.ld (part:=none) hC).andThen .now).andThen .now
 repeat (first|(with_reducible refine fH e4 ?_)|(with_reducible refine fH rfl ?_)|with_reducible refine wpAny_call ?_|lk)
 refine R8 Y' ?_;have k:∀b o,h.get? b=some o→((h.push emptyDict).push (gj C h.objs.size)).get? b=some o:=fun b o e=>get?_push_of_some _ (get?_push_of_some _ e);have hx:((h.push emptyDict).push (gj C h.objs.size)).get? (h.objs.size+1)=some (gj C h.objs.size):=by heap_get
 have t1:Looks (model P w) ((h.push emptyDict).push (gj C h.objs.size)) (typeOf (.ref (h.objs.size+1))) (.ref C):=(Looks.ld hx).andThen .now;have s1:=self.keeps k;have i1:=hi.keeps k;have b1:=(hb (.ref (h.objs.size+1))).keeps k;unfold isInstance callSpecial? specialOf
 repeat (first|with_reducible refine wpAny_call ?_|lk)
 refine codeAny_mono hq fun r s' z=>?_;rcases r with e|(v|_|_|_)<;>first|exact z|exact z.elim|skip
 refine au z ?_;clear z;rintro rfl z;exact wpAny_pure (wpAny_pure z)
end
end
end Mine
end
section
open PySem PySem.W PySem.Calls PyProof.Rows Builtin Builtin.ObjectAttr
namespace Mine
section
variable{X:Ctx}{T:Tables}
theorem UE(self:Value):refuseLoop self "__setattr__" [.type "list",.type "object"]=pure ():=by kernel_rfl
section
variable{w:World}{A:Around}{C:Addr}{R:Result→Shared→Prop}{s:Shared}
theorem S8{K:Frag}{cd:ClassData}{x dx:Addr}{ox od:Obj}{name:Str}{tk:Tok}{v:Value}(hK:K.In s.heap)(I:InstAt s.heap x ox C (some od))(hd:ox.dict=some dx)(hc:clsIn K C=some cd)
 (hm:cd.mro=[.ref C,.type "list",.type "object"]) (hdict:cd.hasDict=true) (hname:findIn K (.ref C) name=some none) (hod:od=emptyDict)
 (h:R (.ok (.ret .none)) { s with heap:=s.heap.update dx (putName name (keyHash w.params name) (.str name s.toks) v),toks:=s.toks+1 }) :
 codeAny (model P w) A (.call (.builtin "object.__setattr__") ⟨[.ref x,.str name tk,v],[]⟩) R s:=by
 subst hod;have SF:=PySem.F.store_object;have Ot:Looks (model P w) s.heap (mroOf (.ref C)) cd.mro:=(looks_clsIn hK hc).andThen .now;have sub:Looks (model P w) s.heap (isInstance (.ref x) (.type "object")) true:=I.type.andThen (looks_mroIn hK (by unfold mroIn;rw [hc,bind_some,hm];simp))
 refine codeAny_call_builtin SF.slot.plain SF.entry (@check_slot (model P w) _ _ s "object.__setattr__" "object" "__setattr__" (.ref x) [.str name tk,v] [] _ SF.kind SF.split sub (SF.args (.ref x) (.str name tk) v) ?_);rw [osa_eq,refuse_eq];refine wpAny_bind (wpAny_bind (I.type.here (wpAny_bind (Ot.here ?_))));rw [hm,refuseLoop_ref,UE];have L3:Looks (model P w) s.heap (storeTaker? none) none:=.now;refine wpAny_pure (wpAny_bind (I.type.here (wpAny_bind ((looks_findIn hK hname).here (wpAny_bind (L3.here ?_))))));have D:s.heap.get? dx=some emptyDict:=by have:=I.dict;rw [hd] at this;exact this
 obtain⟨hx,hcl,hn,-⟩:=I;obtain⟨oc,W6,W5,osl⟩:=ox;dsimp only at hcl hd;subst hcl hd;refine wpAny_bind (wpAny_pure (wpAny_bind (wpAny_bind (wpAny_loadPart hx (wpAny_bind ((looks_clsIn hK hc).here ?_))))));rw [hdict];refine wpAny_pure (a:=some dx) (wpAny_bind (wpAny_pure (wpAny_bind ?_)));unfold nsSet;refine wpAny_bind (wpAny_bind (wpAny_askSetting (wpAny_pure (wpAny_bind (wpAny_mkText (wpAny_bind (wpAny_loadPart D ?_)))))));dsimp only;have c:(!(#[]:Array DictEntry).any (·.key.isStr name)&&(#[]:Array DictEntry).any (·.refKey))=false:=by simp
 rw [aRefKeyMayBeTheName_at,c];refine wpAny_updatePart D ?_;have e:putName name (keyHash w.params name) (.str name s.toks) v emptyDict={ cls:=.type "dict",data:=.dict #[⟨keyHash w.params name,.str name s.toks,v⟩] 1 }:=by kernel_rfl
 have D':(s.heap.update dx (putName name (keyHash w.params name) (.str name s.toks) v)).get? dx=some { cls:=.type "dict",data:=.dict #[⟨keyHash w.params name,.str name s.toks,v⟩] 1 }:=by
  rw [get?_update_self _ D (by rw [e];rfl),e]
 refine wpAny_bind (wpAny_lookBehind D' (pastItsLine_dict (by rw [sizeLine_eq];simp)) ?_)
 exact wpAny_pure h
end
end
end Mine
end
section
open PySem PySem.W PySem.Calls PyProof.Rows
namespace Mine
section
variable{A:Around}{E:Value→Shared→Prop}{s:Shared}{w:World}{a:Addr}{o:Obj}{vs:Array Value}{n:Nat}
variable{X:Ctx}{T:Tables}
theorem WB{M:Model}{c:Code}{e:Expr}{pos:Pos}{env:Env}{Q:Flow→Shared→Prop}(h:PySem.wpAt M A c (eval e env) (fun v s'=>v=.none∧Q .next s') E s)
 (hi:interactive env=false) (hs:swapsWith e none pos.line env=pure false):PySem.wpAt M A c (exec (.Expr e pos) env) Q E s:=by
 rw [exec_Expr env e pos hi hs];refine PySem.wpAt_bind (PySem.wpAt_of_wpAny (wpAny_standAt (PySem.wpAt_bind (PySem.wpAt_mono h (fun v s' h'=>?_) fun Z Z x=>x))));refine au h' ?_;clear h';rintro rfl h';have hv:∀a,Value.none≠.ref a:=fun a z=>by cases z
 rw [dropValue_plain hv];exact PySem.wpAt_of_wpAny (wpAny_pure h')
theorem entry_list_init:entryFor table "list.__init__"=some Builtin.«list.__init__»:=entryFor_of_tree (by kernel_rfl)
theorem UY{Q:Fin→Shared→Prop}(e:s.heap.get? a=some o)(d:o.data=.seq vs n)(hn:vs.size<2^20)
 (hq:Q (.done (.ret .none)) { s with heap:=s.heap.update a (mapSeq fun Z=>#[]) }):wpAny (model P w) A (Builtin.«list.__init__» ⟨[.ref a],[]⟩) Q E s:=by
 have hsl:sizeLine=2^24:=rfl;show wpAny _ _ (Builtin.List.listItems (.ref a)>>=fun old=>Builtin.List.listUpdate (.ref a) (fun Z=>#[])>>=fun Z=>letGo old.toList.reverse>>=fun Z=>ret .none) _ _ s;refine wpAny_bind (listItems_at e d ?_);exact wpAny_bind (listUpdate_at e d (wpAny_bind (wpAny_letGo (wpAny_pure hq))) (by lia) (by simp))
theorem Kp{b:Addr}{Q:Value→Shared→Prop}(hb:s.heap.get? b=some { cls:=.type "method-wrapper",data:=.fields #[.builtin "list.__init__",.ref a] })
 (e:s.heap.get? a=some o) (d:o.data=.seq vs n) (hn:vs.size<2^20) (hq:Q .none { s with heap:=s.heap.update a (mapSeq fun Z=>#[]) }):wpAny (model P X.w) A (call (.ref b) [] []) Q E s:=by
 refine wpAny_call (xB (args:=[]) hb (.inl rfl) (by kernel_rfl) (Ko (codeAny_builtin entry_list_init ?_)))
 exact UY e d hn hq
theorem PE{C:Addr}{K:Frag}{cd:ClassData}{x dx:Addr}{ox:Obj}{name:Str}{v:Value}{Q:Unit→Shared→Prop}(hK:K.In s.heap)(I:InstAt s.heap x ox C (some emptyDict))(hd:ox.dict=some dx)(hc:clsIn K C=some cd)
 (hm:cd.mro=[.ref C,.type "list",.type "object"]) (hdict:cd.hasDict=true) (hname:findIn K (.ref C) name=some none) (hsa:findIn K (.ref C) "__setattr__"=some (some (.builtin "object.__setattr__")))
 (h:Q () { s with heap:=s.heap.update dx (putName name (keyHash w.params name) (.str name (s.toks+1)) v),toks:=s.toks+1+1 }):wpAny (model P w) A (setAttr (.ref x) name v) Q E s:=by
 unfold setAttr;refine wpAny_bind (wpAny_mkText (wpAny_bind ?_));refine zj (s:={ s with toks:=s.toks+1 }) hK I hsa (PySem.F.store_object.slot.bind _) (wpAny_call (S8 (s:={ s with toks:=s.toks+1 }) hK I hd hc hm hdict hname rfl ?_))
 exact wpAny_pure h
end
section
variable{X:Ctx}{T:Tables}
structure wB(K:Frag)(cd:ClassData):Prop where
 makes:vc K aN=true
 hasDict:cd.hasDict=true
 size:findIn K (.ref aN) "_initial_size"=some none
 setattr:findIn K (.ref aN) "__setattr__"=some (some (.builtin "object.__setattr__"))
set_option maxHeartbeats 1000000 in
theorem Pw{K:Frag}{cd:ClassData}(CK:j4 K cd)(CM:wB K cd)(jd:∀h,Keeps X h→K.In h){f cc:Addr}{fd:FuncData}{o:Obj}(MS:mJ X f cc fd o)(MO:MethAt X f [(("__class__":Str),cc)] fd o)
 {p1 p2 p3 p4 q0 q1 qa qq sp:Pos} (hl2:(qa.endLine==qq.line)=true)
 (hbody:fd.body=.stmts [.Assign [.Attribute (.Name "self" p1) "_initial_size" p2] (.Name "initial_size" p3) p4,.Expr (.Call (.Attribute (.Call (.Name "super" q0) [] [] q1) "__init__" qa) [] [] qq) sp])
 (uE:∃ar,(fd.params.posonlyargs++fd.params.args).head?=some ar∧ar.arg="self") (hks:fd.scope.names.lookup ("super":Str)=some .globalImplicit) (hkc:fd.scope.names.lookup ("__class__":Str)=some .free) (hka:fd.scope.names.lookup ("self":Str)=some .local)
 (hki:fd.scope.names.lookup ("initial_size":Str)=some .local) (htop:(P.main.scope.names.lookup ("super":Str)).isSome=false) (hb:∀(s:Shared) (a b:Value),aq X s→BindsTo s fd ⟨[a,b],[]⟩ [(("self":Str),a),(("initial_size":Str),b)])
 {A:Around} {RR:Result→Shared→Prop} {s₀ s:Shared} {x dx:Addr} {i:Int} {ti:Tok} (Rm:A.depth<900) (A7:aq X s₀) (G0:aM s₀.heap s.heap) (hos:s.os=s₀.os) (hgs:s.gens=s₀.gens) (hx:s.heap.get? x=some (gj aN dx)) (hdx:s.heap.get? dx=some emptyDict) (hne:dx≠x) (OX:s₀.heap.objs.size≤x) (NV:s₀.heap.objs.size≤dx)
 (hq:∀h' tk,aM s₀.heap h'→AccAt h' x dx i #[]→RR (.ok (.ret .none)) { s with heap:=h',toks:=tk }) :
 codeAny (model P X.w) A (.call (.ref f) ⟨[.ref x,.int i ti],[]⟩) RR s:=by
 have Am:aq X s:=A7.grown G0 hos hgs;refine cps fun Z kk=>?_;obtain⟨c,co,ws,t,file,tf,Gu,q2,q3,q4,q5,q6,q7⟩:=MS.code;refine kk ?_;clear kk;refine codeAny_call_function (o:=o) (fd:=fd) (by show A.depth<1000;lia) (Am.keep _ _ MO.at' MO.nt) MO.data MO.co MO.gen hbody ⟨c,co,ws,t,Gu,Am.keep _ _ q2 q3,q4,q5⟩ ?_
 refine hb _ _ _ Am _ _ _ _ ?_;rw [MO.closure,MO.globals,MO.builtins];refine wpAny_newFunctionEnv MO.jT (fun y hy=>?_) (fun h₁ hns hsb=>?_) MO.kind
 ·simp only [mem_cons,not_mem_nil,or_false] at hy;rcases hy with rfl|rfl
  ·exact hka
  ·exact hki
 ·have e0:(none:Option Env).isSome=false:=rfl;simp only [e0,false_eq_true,if_false] at hsb;have hsz:h₁.objs.size=s.heap.objs.size+1:=by rw [hsb.1,size_push]
  have G:aM s.heap h₁:=by
   refine⟨fun b o e=>(hsb.2 b (ne_of_lt (lt_size e))).trans (get?_push_of_some _ e),?_⟩;rw [hsz];exact le_succ _
  have iu:aq X ({ s with heap:=h₁,toks:=s.toks+2 }:Shared):=Am.grown G
  refine⟨iu.lim,ks_codeAny_funcAt ?_⟩;show PySem.wpAt _ _ _ (exec _ _>>=fun f=>match f with | .next=>execs _ _|f=>pure f) _ _ _
  refine PySem.wpAt_bind (PySem.wpAt_of_wpAny ?_);have Ej:=G.keep _ _ hx;have D6:=G.keep _ _ hdx;have Nu:=jd _ iu.keeps;have I1:InstAt h₁ x (gj aN dx) aN (some emptyDict):=⟨Ej,rfl,rfl,D6⟩;refine plainObj_wpAny_Assign_Attribute (wpAny_Name ?_) rfl;refine wpAny_loadName_local MO.kind hki hns (v:=.int i ti) (by simp) ?_
  have uF:(("self":Str)==("initial_size":Str))=false:=by decide+kernel
  refine wpAny_Name (wpAny_loadName_local MO.kind hka hns (v:=.ref x) (by simp [List.lookup,uF]) ?_)
  refine PE (s:={ s with heap:=h₁,toks:=s.toks+2 }) Nu I1 rfl CK.cls CK.mro CM.hasDict CM.size CM.setattr ?_
  have e:putName ("_initial_size":Str) (keyHash X.w.params "_initial_size") (.str "_initial_size" (s.toks+2+1)) (.int i ti) emptyDict={ cls:=.type "dict",data:=.dict #[⟨keyHash X.w.params "_initial_size",.str "_initial_size" (s.toks+2+1),.int i ti⟩] 1 }:=by kernel_rfl
  generalize D9:h₁.update dx (putName ("_initial_size":Str) (keyHash X.w.params "_initial_size") (.str "_initial_size" (s.toks+2+1)) (.int i ti))=h₂;have vN:SameBut dx h₁ h₂:=by rw [←D9];exact SameBut.update ..
  have D2:h₂.get? dx=some { cls:=.type "dict",data:=.dict #[⟨keyHash X.w.params "_initial_size",.str "_initial_size" (s.toks+2+1),.int i ti⟩] 1 }:=by
   rw [←D9,get?_update_self _ D6 (by rw [e];rfl),e]
  have X2:h₂.get? x=some (gj aN dx):=(vN.2 x hne.symm).trans Ej;have at2:AccAt h₂ x dx i #[]:=⟨0,ti,_,_,X2,D2⟩;have Bd:=G0.trans G;have Be:aM s₀.heap h₂:=⟨fun b o eb=>(vN.2 b (fun z=>absurd (lt_size eb) (by rw [z];exact not_lt.mpr NV))).trans (Bd.keep b o eb),le_trans Bd.size (le_of_eq vN.1.symm)⟩
  have dH:aq X ({ s with heap:=h₂,toks:=s.toks+2+1+1 }:Shared):=A7.grown Be hos hgs
  have Ow:h₂.Ns s.heap.objs.size (fun y=>[(("self":Str),Value.ref x),(("initial_size":Str),.int i ti)].reverse.lookup y):=by
   refine bG hns ?_;clear hns;intro oo es ep eo rr;exact⟨oo,es,ep,(vN.2 _ (ne_of_gt (lt_size hdx))).trans eo,rr⟩
  refine bQ MS.cell ?_;intro oc r1 r2 r3;refine aj uE ?_;clear uE;intro ar har rJ;show PySem.wpAt _ _ _ (execs _ _) _ _ _;show PySem.wpAt _ _ _ (exec _ _>>=fun f=>match f with | .next=>execs _ _|f=>pure f) _ _ _
  refine PySem.wpAt_bind ?_;refine WB (Az (s:={ s with heap:=h₂,toks:=s.toks+2+1+1 }) hks hkc Fc.vg rfl (dH.keep _ _ MS.at' MS.nt) MS.data har Gu (dH.keep _ _ q2 q3) q4 q6 q7 htop hl2 ?_) (by simp [interactive,newEnv,MO.kind]) rfl
  rw [rJ];refine wY CK (jd _ dH.keeps) at2 MO.kind hks hkc hka (MS.super _ dH.keeps _ rfl rfl) rfl ⟨oc,dH.keep _ _ r1 r2,r3⟩ Ow (by simp [List.lookup,uF]) Fc fun b h' t' G' Z hb'=>?_
  refine Kp (s:={ s with heap:=h',toks:=t' }) hb' (G'.keep _ _ X2) rfl (by simp) ?_
  have As:SameBut x h' (h'.update x (mapSeq fun Z=>#[])):=SameBut.update ..;refine⟨rfl,?_⟩;refine PySem.wpAt_of_wpAny (wpAny_execs_nil ?_);have X3:=G'.keep _ _ X2;have Bf:=Be.trans G';refine hq _ _ ⟨fun b o eb=>(As.2 b (fun z=>absurd (lt_size eb) (by rw [z];exact not_lt.mpr OX))).trans (Bf.keep b o eb),le_trans Bf.size (le_of_eq As.1.symm)⟩ ?_
  obtain⟨n',hm'⟩:∃n',mapSeq (fun Z=>#[]) (gj aN dx)=⟨.ref aN,some dx,.seq #[] n',#[]⟩:=⟨_,rfl⟩;exact⟨n',ti,_,_,by rw [get?_update_self _ X3 (by rw [hm'];rfl),hm'],(As.2 dx hne).trans (G'.keep _ _ D2)⟩
end
section
variable{X:Ctx}{T:Tables}
theorem Ry{K:Frag}{cd:ClassData}(CK:j4 K cd)(CM:wB K cd)(jd:∀h,Keeps X h→K.In h){f cc:Addr}{fd:FuncData}{o:Obj}(MS:mJ X f cc fd o)(MO:MethAt X f [(("__class__":Str),cc)] fd o)
 (Og:findIn K (.ref aN) "__init__"=some (some (.ref f))) (VT:typeIn K (.ref f)=some (.type "function"))
 {p1 p2 p3 p4 q0 q1 qa qq sp:Pos} (hl2:(qa.endLine==qq.line)=true)
 (hbody:fd.body=.stmts [.Assign [.Attribute (.Name "self" p1) "_initial_size" p2] (.Name "initial_size" p3) p4,.Expr (.Call (.Attribute (.Call (.Name "super" q0) [] [] q1) "__init__" qa) [] [] qq) sp])
 (uE:∃ar,(fd.params.posonlyargs++fd.params.args).head?=some ar∧ar.arg="self") (hks:fd.scope.names.lookup ("super":Str)=some .globalImplicit) (hkc:fd.scope.names.lookup ("__class__":Str)=some .free) (hka:fd.scope.names.lookup ("self":Str)=some .local)
 (hki:fd.scope.names.lookup ("initial_size":Str)=some .local) (htop:(P.main.scope.names.lookup ("super":Str)).isSome=false) (hb:∀(s:Shared) (a b:Value),aq X s→BindsTo s fd ⟨[a,b],[]⟩ [(("self":Str),a),(("initial_size":Str),b)])
 {k:Nat} {A:Around} {E:Value→Shared→Prop} {ρ:aB} {σ:aa} {s:Shared} {i:Int} {ti:Tok} (Rm:aT k A) (Am:aq X s) (R:Rel X ρ σ s.heap) :
 wpAny (model P X.w) A (call (.ref aN) [.int i ti] []) (aD X ρ s (σ++[.acc i []]) (.loc σ.length)) E s:=by
 have hK:=jd _ Am.keeps;obtain⟨h,g,d,t,os⟩:=s;refine wpAny_call (Rx (Rz hK CM.makes) (looks_findIn hK Og) (fun self=>bind_fn hK self VT) ?_);have G:aM h ((h.push emptyDict).push (gj aN h.objs.size)):=(aM.push _ _).trans (aM.push _ _);have hx:((h.push emptyDict).push (gj aN h.objs.size)).get? (h.objs.size+1)=some (gj aN h.objs.size):=by
  have:=get?_push_size (h.push emptyDict) (o:=gj aN h.objs.size) rfl;rw [size_push] at this;exact this
 have hdx:((h.push emptyDict).push (gj aN h.objs.size)).get? h.objs.size=some emptyDict:=get?_push_of_some _ (get?_push_size _ rfl);refine Pw (s₀:=⟨h,g,d,t,os⟩) CK CM jd MS MO hl2 hbody uE hks hkc hka hki htop hb (by simp only [depth_under_make];have:=Rm.depth;lia) Am G rfl rfl hx hdx (ne_of_lt (lt_succ_self _)) (le_succ _) (le_refl _) fun h' tk G' at'=>?_
 refine⟨rfl,ρ.ah++[(h.objs.size+1,h.objs.size)],?_,Am.grown (s':=⟨h',g,d,tk,os⟩) G',?_,?_⟩
 ·exact G'.Aw (le_succ _) (le_refl _)
 ·have h1:h.objs.size+1<h'.objs.size:=by
   obtain⟨_,_,_,_,e1,_⟩:=at';exact lt_size e1
  exact R.more G' Am.size ⟨le_succ _,h1⟩ ⟨le_refl _,Nat.lt_of_succ_lt h1⟩ (.acc at' .nil rfl)
 ·exact .loc (p:=(h.objs.size+1,h.objs.size)) (by rw [←R.len];simp)
end
section
variable{h h':Heap}{a it l:Addr}{xs items:Array Value}{i:Nat}{x:Value}{Q:Option Value→Shared→Prop}
variable{X:Ctx}{T:Tables}
noncomputable def SeqIn(h:Heap)(a:Addr)(xs:Array Value):Prop:=∃o n,h.get? a=some o∧o.data=.seq xs n
theorem SeqIn.extBut{b:Addr}(x:SeqIn h a xs)(hs:ExtBut b h h')(hab:a≠b):SeqIn h' a xs:=let⟨o,n,e,d⟩:=x;⟨o,n,hs a o hab e,d⟩
theorem SeqIn.at(x:SeqIn h a xs)(hk:∀o,h.get? a=some o→h'.get? a=some o):SeqIn h' a xs:=let⟨o,n,e,d⟩:=x;⟨o,n,hk o e,d⟩
section
variable{prog:Program}{w:World}{A:Around}{E:Value→Shared→Prop}{s:Shared}
theorem Se(hit:s.heap.IsListIter it l i)(hl:SeqIn s.heap l items)(hx:items[i]?=some x)
 (hQ:∀h',h'.IsListIter it l (i+1)→SameBut it s.heap h'→Q (some x) { s with heap:=h' }):wpAny (model prog w) A (pyNext (.ref it)) Q E s:=by
 refine bQ (id hit) ?_;intro o ho hc hd;refine bK hl ?_;clear hl;intro ol nl lM hdl;unfold pyNext;refine wpAny_bind (wpAny_attempt (wpAny_callSpecial?_slot (name:=ofString "__next__") hit.typeIs slot_listiter_next
  (wpAny_call_entry slot_listiter_next hit.typeIs entry_listiter_next ?_ (args_listiter_next _))))
 show wpAny _ _ (field (.ref it) 0>>=_) _ _ s;refine wpAny_bind (wpAny_field ho hd (x:=.ref l) rfl ?_);show wpAny _ _ (if (Value.ref l==Value.none)=true then _ else _) _ _ s
 rw [if_neg (show ¬((Value.ref l==Value.none)=true) from Bool.false_ne_true)];show wpAny _ _ (field (.ref it) 1>>=_) _ _ s;refine wpAny_bind (wpAny_field ho hd (x:=.int i 0) rfl ?_);show wpAny _ _ (seqItems? (.ref l)>>=_) _ _ s;refine wpAny_bind (wpAny_seqItems lM hdl ?_);simp only [toNat_natCast,hx];refine wpAny_bind (wpAny_setField ho hd (by simp) (wpAny_pure ⟨x,rfl,wpAny_pure (hQ _ ?_ (SameBut.update ..))⟩))
 exact⟨_,get?_update_self _ ho (Obj.isFreed_of_fields (Obj.data_mapFields hd _)),(Obj.cls_mapFields ..).trans hc,by rw [Obj.data_mapFields hd];simp [rawInt]⟩
theorem Sd(hh:A.handled=none)(hit:s.heap.IsListIter it l i)(hl:SeqIn s.heap l items)(hx:items[i]?=none)
 (hQ:∀h',ExtBut it s.heap h'→Q none { s with heap:=h' }):wpAny (model prog w) A (pyNext (.ref it)) Q E s:=by
 refine bQ (id hit) ?_;intro o ho hc hd;refine bK hl ?_;clear hl;intro ol nl lM hdl;unfold pyNext;refine wpAny_bind (wpAny_attempt (wpAny_callSpecial?_slot (name:=ofString "__next__") hit.typeIs slot_listiter_next
  (wpAny_call_entry slot_listiter_next hit.typeIs entry_listiter_next ?_ (args_listiter_next _))))
 show wpAny _ _ (field (.ref it) 0>>=_) _ _ s;refine wpAny_bind (wpAny_field ho hd (x:=.ref l) rfl ?_);show wpAny _ _ (if (Value.ref l==Value.none)=true then _ else _) _ _ s
 rw [if_neg (show ¬((Value.ref l==Value.none)=true) from Bool.false_ne_true)];show wpAny _ _ (field (.ref it) 1>>=_) _ _ s;refine wpAny_bind (wpAny_field ho hd (x:=.int i 0) rfl ?_);show wpAny _ _ (seqItems? (.ref l)>>=_) _ _ s;refine wpAny_bind (wpAny_seqItems lM hdl ?_);simp only [toNat_natCast,hx];refine wpAny_bind (wpAny_rule (wpAny_bind (wpAny_setField ho hd (by simp) ?_)))
 show wpAny _ _ (newExc (.type "StopIteration") []>>=_) _ _ _;refine wpAny_bind ?_;simp only [newExc,newTuple];refine wpAny_bind (wpAny_newObj_type ?_ (by size_fits))
 refine wpAny_bind (m:=firstArgMember _ _) (wpAny_of_eq (a:=Value.none) (by first|rfl|(simp only [firstArgMember];rfl)) ?_)
 refine wpAny_newObj_type ?_ (by size_fits)
 simp only [raiseNew];refine wpAny_bind (wpAny_handled ?_);rw [show A.in1.handled=none from hh];refine wpAny_bind (wpAny_pure (wpAny_throw ?_));refine wpAny_bind (wpAny_isInstance (T:="StopIteration") (b:=true) ⟨_,get?_push_size _ rfl,rfl⟩ isSubtype_stop ?_);exact wpAny_pure (hQ _ (((SameBut.update ..).extBut.push _).push _))
theorem Wn(hh:A.handled=none)(I ax:Addr)(hne:ax≠I)(items:Array Value)(Ts:Nat→Addr)(vals:Nat→Array Value)
 (hit:∀j,j<items.size→items[j]?=some (.ref (Ts j))) (hTI:∀j,j<items.size→Ts j≠I) :
 WalksU prog w A I (I::ax::(List.range items.size).map Ts) [I] items.size (fun j v=>v=vals j)
  (fun j h=>h.IsListIter I ax j∧SeqIn h ax items∧∀k,k<items.size→h.IsTuple (Ts k) (vals k))
  (fun j T h=>(j<items.size∧T=Ts j)∧h.IsListIter I ax (j+1)∧SeqIn h ax items∧∀k,k<items.size→h.IsTuple (Ts k) (vals k)) where
 sub:=fun b hb=>by simp at hb;simp [hb]
 frame:=fun Z Z Z st hk=>⟨st.1.at fun o e=>hk I (by simp) o e,st.2.1.at fun o e=>hk ax (by simp) o e,
  fun k hk'=>(st.2.2 k hk').at fun o e=>hk (Ts k) (mem_cons_of_mem _ (mem_cons_of_mem _ (mem_map.mpr ⟨k,mem_range.mpr hk',rfl⟩))) o e⟩
 item:=fun i s Q E hi st hQ=>by
  refine Se st.1 st.2.1 (x:=.ref (Ts i)) (hit i hi) fun h' rE hs'=>?_;have tup:∀k,k<items.size→h'.IsTuple (Ts k) (vals k):=fun k hk'=>(st.2.2 k hk').extBut hs'.extBut (hTI k hk');exact hQ (Ts i) (vals i) h' s.toks rfl (tup i hi) ⟨⟨hi,rfl⟩,rE,st.2.1.extBut hs'.extBut hne,tup⟩ fun b o hb e=>hs'.extBut b o (fun h=>hb (by simp [h])) e
 go:=fun Z Z Z Z Z s Q Z hm hQ=>wpAny_letOwnedTupleGo_listiter hm.2.1 (hQ s.heap hm.2 fun Z Z Z e=>e)
 apart:=fun j T Z hm hmem=>by
  rcases mem_cons.mp hmem with e|e
  ·exact hTI j hm.1.1 (hm.1.2▸e)
  ·cases e
 done:=fun s Q E st hQ=>Sd hh st.1 st.2.1 (by simp) fun h' he'=>hQ h' s.toks fun b o hb e=>he' b o (fun h=>hb (by simp [h])) e
 self:=fun Z Z Z Z st hQ=>wpAny_pyIter_listiter st.1 hQ
theorem Wo{I:Addr}{fp wr:List Addr}{G:Array GenState→Array GenState→Prop}{n:Nat}{Pr:Nat→Value→Prop}{St:Nat→Shared→Prop}(W:WalksS prog w A I fp wr G n Pr St) :
 WalksS prog w A I fp wr G (n+1) (fun i v=>∃j,i=j+1∧Pr j v) (fun i s=>∃j,i=j+1∧St j s) where
 sub:=W.sub
 grefl:=W.grefl
 gtrans:=W.gtrans
 frame:=fun i s h' tk ⟨j,e,st⟩ ht hk=>⟨j,e,W.frame j s h' tk st ht hk⟩
 item:=fun i s Q E hi ⟨j,e,st⟩ hQ=>by
  subst e;exact W.item j s Q E (by lia) st fun v s' hP hst hm=>hQ v s' ⟨j,rfl,hP⟩ ⟨j+1,rfl,hst⟩ hm
 done:=fun s Q E ⟨j,e,st⟩ hQ=>by
  obtain rfl:n=j:=by lia
  exact W.done s Q E st hQ
 self:=fun i s Q E ⟨j,e,st⟩ hQ=>W.self j s Q E st hQ
noncomputable def sL(c:Int)(val:Nat→Int):Nat→Int
 | 0=>c
 | j+1=>val j
theorem vI(c:Int)(val:Nat→Int):∀n,preSum (sL c val) (n+1)=c+preSum val n:=by
 intro n
 induction n with
 | zero=>simp [preSum,sL]
 | succ n rc=>rw [preSum,rc];show c+preSum val n+val n=c+(preSum val n+val n);lia
theorem IS(a b:Value):argsOk "sum" ⟨[a,b],[]⟩:=by unfold argsOk;kernel_rfl
theorem KO{c:Int}{tc:Tok}{Q:Value→Shared→Prop}(hc:InLong c)
 (h:wpAny (model prog w) A.in1 (pyIter x) (fun it s₂=>∃I fp wr G n Pr St val,it=.ref I∧WalksS prog w A.in1 I fp wr G n Pr St∧St 0 s₂∧(∀b∈fp,b<s₂.heap.objs.size)∧
  (∀i v,Pr i v→∃t,v=.int (val i) t)∧(∀j,j<n→InLong (val j)∧InLong (c+preSum val (j+1)))∧
  ∀s' t',Moved wr G s₂ s'→Q (.int (c+preSum val n) t') s') E s) :
 wpAny (model prog w) A (call (.builtin "sum") [x,.int c tc]) Q E s:=by
 refine call_function_tree F.kind_sum F.plain_sum F.entry_sum (IS _ _) ?_;unfold Builtin.«sum»;simp only [length_cons,List.length_nil];rw [if_neg (by decide)]
 refine wpAny_bind (wpAny_of_eq (show Builtin.Builtins.bindParams "sum" ["start"] 0 ⟨[.int c tc],[]⟩=pure [some (.int c tc)] from rfl) ?_);refine wpAny_bind (wpAny_mono h (fun it s₂ h₂=>?_) fun Z Z e=>e);refine LF h₂ ?_;rintro I fp wr G n Pr St val rfl W hst hfp hval hfit hQ;dsimp only;have hfl:(decide (-(2^63)≤c)&&decide (c<2^63))=true:=by
  simp only [and_eq_true,decide_eq_true_eq];exact hc
 split
 ·refine wpAny_bind (wpAny_rule (wpAny_bind (wpAny_mkInt ?_)));refine wpAny_bind (wpAny_pure ?_);simp only [forIn_cons,List.forIn_nil];refine wpAny_bind (wpAny_bind (wpAny_bind (wpAny_isInstance (T:="int") (b:=false) (typeIs_int _ _ _) PySem.sub_int_str ?_)));refine fH rfl ?_;refine wpAny_pure (wpAny_bind (wpAny_bind (wpAny_isInstance (T:="int") (b:=false) (typeIs_int _ _ _) PySem.sub_int_bytes ?_)));refine fH rfl ?_;refine wpAny_pure (wpAny_bind (wpAny_bind (wpAny_isInstance (T:="int") (b:=false) (typeIs_int _ _ _) PySem.sub_int_bytearray ?_)));refine fH rfl ?_;refine wpAny_pure (wpAny_pure ?_);refine wpAny_bind (wpAny_newObj_type ?_);have hSf:s₂.heap.objs.size∉fp:=fun hm=>lt_irrefl _ (hfp _ hm);have W':=Wo W;have e0:preSum (sL c val) 1=c:=by have:=vI c val 0;simpa [preSum] using this
  refine wpAny_pure ⟨plainId_quiet F.plain_sum_loop _,codeAny_sum_loopS W' (sL c val) (fun i v ⟨j,e,hp⟩=>by subst e;exact hval j v hp) (fun j hj=>?_) s₂.heap.objs.size hSf n 1 _ s₂.toks 0 (by lia) (by lia)
   ⟨0,rfl,W.frame 0 s₂ _ _ hst (by first|exact le_refl _|exact le_succ _|lia) fun b Z o e=>get?_push_of_some _ e⟩ (by rw [e0];exact get?_push_size _ rfl) fun s' t' hm=>?_⟩
  ·cases j with
   | zero=>exact⟨hc,by rw [show (0:Nat)+1=1 from rfl,e0];exact hc⟩
   | succ j=>
    have:=hfit j (by lia)
    exact⟨this.1,by rw [vI];exact this.2⟩
  ·rw [vI];exact hQ s' t' (hm.drop_new (by first|exact le_refl _|exact le_succ _|lia))
 ·rename_i hneg;exact absurd hfl hneg
end
end
section
variable{X:Ctx}{T:Tables}
structure oJ(X:Ctx)(qual:Str)(c Tb:Addr):Prop where
 mem:(Tb,qual++"<genexpr>")∈X.tabs
 uniq:∀q,(Tb,q)∈X.tabs→q=qual++"<genexpr>"
 base:∀h,Keeps X h→CodeHd h c Tb
theorem Nd{qual:Str}{c Tb:Addr}(GC:oJ X qual c Tb){env:Env}(hcode:env.code=.ref c)(hq:env.qual=qual){pos:Pos}{scope:Scope}{A:Around}{E:Value→Shared→Prop}{ρ:aB}{σ:aa}{s:Shared}{Q:Value→Shared→Prop}(Am:aq X s)(R:Rel X ρ σ s.heap)
 (hQ:∀code h' tk,aq X ({ s with heap:=h',toks:=tk }:Shared)→Step X ρ ρ s.heap h'→Rel X ρ σ h'→(∀b o,b≠Tb→s.heap.get? b=some o→h'.get? b=some o)→Q code { s with heap:=h',toks:=tk }) :
 wpAny (model P X.w) A (genexprCode env pos (env.qual++"<genexpr>") scope) Q E s:=by
 refine bQ ((Am.tab Tb _ GC.mem).ok) ?_;intro tb hT htr WX;have CH:=GC.base _ Am.keeps;refine CP CH ?_;intro o vs file tf flags tg inF text tt ho hcl hd WS h11 h2 h7 h9 h10 hne;unfold genexprCode codeAt;rw [hcode,if_neg (show ¬((Value.ref c==Value.none)=true) from Bool.false_ne_true)];refine wpAny_bind (wpAny_fieldsOf ho hd ?_);rw [h11];refine wpAny_bind (wpAny_fieldsOf hT rfl ?_);cases hnf:codeAmong pos tb.toList with
 | some cv=>exact wpAny_pure (hQ cv s.heap s.toks Am (Step.refl _ _) R fun Z Z Z e=>e)
 | none=>
  rw [h2,h7,h9,h10];refine wpAny_bind (wpAny_newCode fun c' P' h' tk hk hc' hP' WW uK=>?_);have Ed:=hk _ _ hT;have OB:(tabObj tb).data=.fields tb:=rfl;refine wpAny_bind (wpAny_updateFieldsOfTheText Ed OB ?_);have hnew:mapFields (fun vs=>if (codeAmong pos vs.toList).isSome=true then vs else vs++#[rawInt pos.line,rawInt pos.col,.ref c']) (tabObj tb)=tabObj (tb++#[rawInt pos.line,rawInt pos.col,.ref c']):=by
   show tabObj (if (codeAmong pos tb.toList).isSome=true then tb else tb++#[rawInt pos.line,rawInt pos.col,.ref c'])=_
   rw [hnf];rfl
  have hget:=get?_update_self (h:=h') (fun o=>mapFields (fun vs=>if (codeAmong pos vs.toList).isSome=true then vs else
   vs++#[rawInt pos.line,rawInt pos.col,.ref c']) o) Ed (by rw [hnew];rfl)
  rw [hnew] at hget;refine wpAny_bind (wpAny_fieldsOf hget rfl ?_);have hl:(tb++#[rawInt pos.line,rawInt pos.col,Value.ref c']).toList=tb.toList++[rawInt pos.line,rawInt pos.col,.ref c']:=by simp
  rw [hl,codeAmong_snoc _ htr hnf];refine wpAny_pure ?_;have hx:∀b o,b≠Tb→s.heap.get? b=some o→(h'.update Tb fun o=>mapFields (fun vs=>if (codeAmong pos vs.toList).isSome=true then vs else vs++#[rawInt pos.line,rawInt pos.col,.ref c']) o).get? b=some o:=
   fun b o' hb e=>(SameBut.update ..).extBut b o' hb (hk b o' e)
  have NS:c'≠Tb:=fun z=>absurd (lt_size hT) (not_lt.mpr (z▸hc'));have OF:(h'.update Tb fun o=>mapFields (fun vs=>if (codeAmong pos vs.toList).isSome=true then vs else vs++#[rawInt pos.line,rawInt pos.col,.ref c']) o).CodeRec (.ref c') (qual++"<genexpr>"):=by
   refine tX uK ?_;clear uK;intro c1 co ws tq e1 e2 e3 e4;cases e1;rw [←hq];exact⟨c',co,ws,tq,rfl,(SameBut.update ..).extBut _ _ NS e2,e3,e4⟩
  have OL:s.heap.objs.size≤h'.objs.size:=by
   refine tX uK ?_;clear uK;intro c1 co ws tq e1 e2 e3 e4;cases e1;exact le_of_lt (lt_of_le_of_lt hc' (lt_size e2))
  have hsz:s.heap.objs.size≤(h'.update Tb fun o=>mapFields (fun vs=>if (codeAmong pos vs.toList).isSome=true then vs else vs++#[rawInt pos.line,rawInt pos.col,.ref c']) o).objs.size:=
   le_trans OL (le_of_eq (SameBut.update h' Tb _).1.symm)
  refine au (Hx (s':={ s with heap:=h'.update Tb fun o=>mapFields (fun vs=>if (codeAmong pos vs.toList).isSome=true then vs else vs++#[rawInt pos.line,rawInt pos.col,.ref c']) o,toks:=tk }) (ρ:=ρ) Am GC.mem GC.uniq hT htr hx hc' OF hget hsz rfl rfl) ?_;intro dc S
  refine hQ _ _ _ dc S (R.mono (bS.weak (S.mono Am)) (fun a ha=>?_) S.size) hx;refine aA (R.own ha) ?_;intro oa e;have uF:a≠Tb:=by
   rintro rfl;refine aj (dj.mp ha) ?_;intro p hp hpa;obtain⟨i,hi,rfl⟩:=getElem_of_mem hp;refine aj (R.get (getElem?_eq_getElem hi)) ?_;intro m _ om;exact (om.kinds hpa hT).1 rfl
  rw [e];exact hx a oa uF e
end
section
variable{X:Ctx}{T:Tables}
theorem Iw{s₄ s':Shared}{I C:Addr}(Fi:bI X)(Am:aq X s₄)(hI:∃o,s₄.heap.get? I=some o∧o.cls≠.none∧¬kF o)(DL:nB≤I)(hC:s₄.heap.objs.size≤C)
 (mv:∀b o,b≠C→b≠I→s₄.heap.get? b=some o→s'.heap.get? b=some o) (hos:s'.os=s₄.os) (hg:AllBare s'.gens) (hsz:s₄.heap.objs.size≤s'.heap.objs.size):aq X s' where
 keep:=fun a o e t=>mv a o (fun z=>absurd (lt_of_lt_of_le (lt_size e) (le_trans Fi.size Am.size)) (not_lt.mpr (z▸hC))) (fun z=>absurd (lt_of_lt_of_le (lt_size e) Fi.size) (not_lt.mpr (z▸DL))) (Am.keep a o e t)
 tab:=fun T q m=>by
  refine bQ ((Am.tab T q m).ok) ?_;intro ps a b c;refine bQ hI ?_;clear hI;intro oi ei ci di;have k1:∀a o,s₄.heap.get? a=some o→(o.cls=.none∨kF o)→s'.heap.get? a=some o:=fun a o e hc=>by
   refine mv a o (fun z=>absurd (lt_size e) (not_lt.mpr (z▸hC))) (fun z=>?_) e;subst z;obtain rfl:=Option.some.inj (e.symm.trans ei);rcases hc with h|h
   ·exact ci h
   ·exact di h
  refine⟨ps,k1 _ _ a (.inl rfl),b,fun pos cv e=>?_⟩;refine iH (c pos cv e) ?_;intro cc co ws t e1 e2 e4 e5 e6;exact⟨cc,co,ws,t,e1,k1 _ _ e2 (.inr ⟨_,_,_,e4,e5⟩),e4,e5,e6⟩
 os:=hos.trans Am.os
 gens:=hg
 size:=le_trans Am.size hsz
 lim:=by
  refine aj Am.lim ?_;intro mc hh;refine bG hh ?_;clear hh;intro o es ep e r;intro h;exact⟨mc,⟨o,es,ep,mv _ _ (fun z=>absurd (lt_size e) (not_lt.mpr (z▸hC))) (fun z=>jt DL z.symm) e,r⟩,h⟩
section
variable{A:Around}{E:Value→Shared→Prop}{s:Shared}
theorem PC{w:World}{K:Frag}{x Cl:Addr}{ox:Obj}{od:Option Obj}{Q:Value→Shared→Prop}(hK:K.In s.heap)(I:InstAt s.heap x ox Cl od)(hL:mroIn K Cl (.type "list")=some true)
 (hf:findIn K (.ref Cl) "__iter__"=some (some (.builtin "list.__iter__"))) (hQ:Q (.ref s.heap.objs.size) { s with heap:=s.heap.push { cls:=.type "list_iterator",data:=.fields #[.ref x,.int 0 0] } }) :
 wpAny (model P w) A (pyIter (.ref x)) Q E s:=by
 have bi:mG "list.__iter__" "__iter__" Builtin.«list.__iter__»:=⟨by decide+kernel,by decide+kernel,entry_list_iter,by decide+kernel⟩
 have hc:wpAny (model P w) A (call (.builtin "list.__iter__") [.ref x]) (fun it s'=>∃T' r,s'.TypeIs it T'∧typeLookup (.type T') "__next__"=pure (some r)∧Q it s') E s:=by
  refine qT bi hK I hL (args_list_iter _) ?_;show wpAny _ _ (do ret (←newFields "list_iterator" [.ref x,rawInt 0])) _ _ s
  exact wpAny_bind (wpAny_newObj_type (wpAny_pure ⟨_,rfl,"list_iterator",_,⟨_,get?_push_size _ rfl,rfl⟩,slot_listiter_next.lookup,hQ⟩))
 unfold pyIter;refine wpAny_bind (uR hK I hf ?_);show wpAny _ _ (callSpecialIfBoundUnlessNone? (.ref x) "__iter__" _>>=_) _ _ s;refine wpAny_bind ?_;have hb:=slot_list_iter.bind (.ref x);simp only [callSpecialIfBoundUnlessNone?,bindSpecialIfBound?];refine wpAny_holding (wpAny_bind (wpAny_bind (uR hK I hf ?_)));simp only [hb];refine wpAny_bind (wpAny_askSetting (wpAny_ite ?_));have fin:∀(refuse:Sem Value),wpAny (model P w) A (if (builtin "list.__iter__"==Value.none)=true then (refuse>>=fun v=>pure (some v)) else (call (.builtin "list.__iter__") [.ref x]>>=fun v=>pure (some v)))
  (fun a s'=>wpAny (model P w) A (match a with
   | some it=>specialOf it "__next__" >>= fun r=>match r with
    | none=>(do rule "iter.non-iterator";raiseError "TypeError" s!"iter() returned non-iterator of type '{← typeNameOf it}'")
    | some _=>pure it
   | none=>bindSpecialIfBound? (.ref x) "__getitem__" >>= fun r=>match r with
    | none=>(do rule "iter.not-iterable";raiseError "TypeError" s!"'{← typeNameOf (.ref x)}' object is not iterable")
    | some _=>(do rule "iter.getitem-fallback";newFields "iterator" [.ref x,←mkInt 0])) Q E s') E s:=by
  intro refuse;refine fH (builtin_beq_none _) ?_;refine wpAny_bind (wpAny_mono hc (fun v s' h'=>wpAny_pure ?_) fun Z Z h'=>h');refine bw h' ?_;clear h';intro T' r rA hl hQ;exact wpAny_bind (wpAny_specialOf rA hl (wpAny_pure hQ))
 split
 ·exact wpAny_bind (wpAny_pure (wpAny_pure (fin _)))
 ·exact wpAny_tryCatch (wpAny_bind (wpAny_pure (wpAny_pure (fin _))))
end
end
section
variable{ρ:aB}{l:List V}{pa pb:Nat→Str}{env:Env}
variable{X:Ctx}{T:Tables}
theorem Tz(n:Nat):passing (fun Z=>true) n 0=List.range n:=by simp [passing]
theorem TN{h:Heap}{vs:Array Value}(rs:aC X ρ h vs.toList l)(hl:∀j,j<l.length→l[j]?=some (.tup [.str (pa j),.str (pb j)])) :
 ∃(Ts:Nat→Addr) (ta tb:Nat→Tok),∀j,j<vs.size→vs[j]?=some (.ref (Ts j))∧PT h (Ts j) #[.str (pa j) (ta j),.str (pb j) (tb j)]:=by
 have hlen:vs.size=l.length:=by have:=rs.length;simpa using this
 have key:∀j,∃(x:Addr×Tok×Tok),j<vs.size→vs[j]?=some (.ref x.1)∧PT h x.1 #[.str (pa j) x.2.1,.str (pb j) x.2.2]:=by
  intro j
  by_cases hj:j<vs.size
  ·refine aj (rs.get (hl j (by lia))) ?_;intro v hv rv
   refine bV rv.inv ?_;rintro a vs' rfl p hn r;obtain⟨xs⟩:=vs';refine bw r.inv ?_;rintro y1 Xa ((rfl:xs=_)) r1 r;refine bw r.inv ?_;rintro y2 ys2 rfl r2 r;obtain rfl:=r.nil_inv;refine aA r1.inv ?_;rintro t1 rfl;refine aA r2.inv ?_;rintro t2 rfl;exact⟨(a,t1,t2),fun Z=>⟨by simpa using hv,p⟩⟩
  ·exact⟨(0,0,0),fun h=>absurd h hj⟩
 exact⟨fun j=>(key j).choose.1,fun j=>(key j).choose.2.1,fun j=>(key j).choose.2.2,fun j hj=>(key j).choose_spec hj⟩
theorem K4{sc:Scope}(h:freeNames sc=[]):closureFor sc env=pure []:=by
 rw [Cn (by rw [h];simp),h];rfl
set_option maxHeartbeats 1000000 in
theorem DF{K:Frag}{cd:ClassData}(CK:j4 K cd)(jd:∀h,Keeps X h→K.In h)(Fi:bI X)(hiter:findIn K (.ref aN) "__iter__"=some (some (.builtin "list.__iter__"))){qual:Str}{c Tb:Addr}(GC:oJ X qual c Tb)
 (NN:∀h,Keeps X h→Looks (model P X.w) h (builtinsFor mainGlobals builtinsNs) builtinsNs) {k:Nat} (CO:bL X (C0 T) k)  {me:ao} {ρ₀:aB} {σ:aa} {s:Shared} {h₀:Heap} {A:Around} {E:Value→Shared→Prop} {Q:Value→Shared→Prop}
 (I:bB X h₀ ρ₀ env me ρ σ s) {m:Nat} {init:Int}  (hself:cy (C0 T) me "self"=some (.loc m)) (hm:σ[m]?=some (.acc init l)) (hcode:env.code=.ref c) (hq:env.qual=qual) (hh:A.handled=none) (hroom:A.depth<900)
  (hl:∀j,j<l.length→l[j]?=some (.tup [.str (pa j),.str (pb j)])) {elt:Expr} {xa xb:Str} {T7 T8 pt sp:Pos} {kt:Nat} {scope:Scope} {pos:Pos}
 (hco:scope.isCoroutine=false) (hfree:freeNames scope=[]) (hcell:∀y∈scope.names,y.2≠.cell) (h0:scope.names.lookup (".0":Str)=some NameKind.local) (hxa:scope.names.lookup xa=some .local) (hxb:scope.names.lookup xb=some .local) (hab:xa≠xb) (hkind:scope.kind=.function)
 {F:Nat→Value→Prop}
 (helt:∀(A':Around) (E':Value→Shared→Prop) i (ta tb:Tok) (s₂:Shared) (m₂:Str→Option Value) (env':Env),i<l.length→A'.handled=none→A'.depth≤A.depth+1→A'.units≤A.units+8→env'.scope=scope→env'.globals=mainGlobals→env'.builtins=builtinsNs→
  Keeps X s₂.heap→s₂.heap.Ns env'.locals m₂→m₂ xa=some (.str (pa i) ta)→m₂ xb=some (.str (pb i) tb)→wpAny (model P X.w) A' (eval elt env') (fun y s₃=>F i y∧PySem.Keeps s₂ s₃) E' s₂)
 (hQ:∀a fp wr g St (s':Shared),WalksS P X.w A.in4 a fp wr (GenOnlyQ g) l.length (fun j y=>∃i,(List.range l.length)[j]?=some i∧F i y) St→St 0 s'→(∀b∈fp,b<s'.heap.objs.size)→a∈fp→(∀i s,St i s→s.TypeIs (.ref a) "generator")→
  (∀s'',Moved wr (GenOnlyQ g) s' s''→aq X s''∧Step X ρ ρ s.heap s''.heap∧Rel X ρ σ s''.heap)→Q (.ref a) s') :
 wpAny (model P X.w) A (eval (.GeneratorExp elt [⟨.Tuple [.Name xa T7,.Name xb T8] kt pt,.Name "self" sp,[],0⟩] scope pos) env) Q E s:=by
 refine wpAny_GeneratorExp_walksQTD hh hco (K4 hfree) hcell h0 hxa hxb hab hkind (by show A.depth<1000;lia) ?_ (fun x=>rfl)
 refine (gW CO hself I.aG I.en (fun w rw'=>?_)).2;refine aj rw'.inv ?_;rintro p rfl e;refine aj (I.rel.get e) ?_;intro mo hmo om;obtain rfl:mo=.acc init l:=Option.some.inj (hmo.symm.trans hm);refine cY om.inv ?_;rintro ax d vs rfl at' rs hpl;have hlen:vs.size=l.length:=by have:=rs.length;simpa using this
 refine bG at'.seq ?_;intro ox od nn Ia hd;have hK:=jd _ I.aG.keeps;refine PC hK Ia CK.jQ hiter ?_;refine lD (TN rs hl) ?_;intro Ts ta tb ki;have G1:=aM.push s.heap { cls:=.type "list_iterator",data:=.fields #[.ref ax,.int 0 0] };have iu:aq X ({ s with heap:=s.heap.push { cls:=.type "list_iterator",data:=.fields #[.ref ax,.int 0 0] } }:Shared):=I.aG.grown G1
 have R1:=I.rel.grown G1;refine⟨iu.lim,?_⟩;refine Nd (s:={ s with heap:=s.heap.push { cls:=.type "list_iterator",data:=.fields #[.ref ax,.int 0 0] } }) GC hcode hq iu R1 fun code h₄ tk₄ oG S4 R4 Ek=>?_
 rw [I.en.globals,I.en.builtins];refine (NN _ oG.keeps).here ?_;have DM:(s.heap.push { cls:=.type "list_iterator",data:=.fields #[.ref ax,.int 0 0] }).get? s.heap.objs.size=some { cls:=.type "list_iterator",data:=.fields #[.ref ax,.int 0 0] }:=get?_push_size _ rfl;have Nr:s.heap.objs.size≠Tb:=by
  rintro rfl;refine aj ((iu.tab _ _ GC.mem).ok) ?_;intro ps hT _;have:=DM.symm.trans hT;simp at this
 have yj:=Ek _ _ Nr DM;have ku:s.heap.objs.size<h₄.objs.size:=lt_size yj;have old:∀b o,b≠Tb→s.heap.get? b=some o→h₄.get? b=some o:=fun b o hb eb=>Ek b o hb (G1.keep _ _ eb);have F2:∀b o,s.heap.get? b=some o→(isSeq o)→b≠Tb:=by
  intro b o eb hh;refine fq hh ?_;clear hh;intro xs n hs;rintro rfl;refine aj ((I.aG.tab _ _ GC.mem).ok) ?_;intro ps hT _;obtain rfl:=Option.some.inj (eb.symm.trans hT);cases hs
 have NK:SeqIn h₄ ax vs:=⟨ox,nn,old _ _ (F2 _ _ Ia.at_ ⟨_,_,hd⟩) Ia.at_,hd⟩;have DY:ax<s.heap.objs.size:=lt_size Ia.at_;have DU:∀j,j<vs.size→Ts j<s.heap.objs.size:=fun j hj=>by obtain⟨_,n,ep⟩:=ki j hj;exact lt_size ep
 refine O5 s.heap.objs.size (s.heap.objs.size::ax::(List.range vs.size).map Ts) [s.heap.objs.size] vs.size (fun j v=>j<vs.size∧v=#[.str (pa j) (ta j),.str (pb j) (tb j)])
  _ _ (fun Z=>true) F rfl (fun A' hA=>(Wn hA s.heap.objs.size ax (ne_of_lt DY) vs Ts (fun j=>#[.str (pa j) (ta j),.str (pb j) (tb j)]) (fun j hj=>(ki j hj).1) (fun j hj=>ne_of_lt (DU j hj))).bound)
  (fun i vals hv=>⟨_,_,hv.2⟩) ⟨⟨_,yj,rfl,rfl⟩,NK,fun k hk=>?_⟩ (fun b hb=>?_) oG.lim ?_ (fun href hhref=>?_) ?_
 ·obtain⟨_,n,ep⟩:=ki k hk;exact⟨_,old _ _ (F2 _ _ ep ⟨_,_,rfl⟩) ep,rfl,n,rfl⟩
 ·rcases mem_cons.mp hb with rfl|hb
  ·exact ku
  ·rcases mem_cons.mp hb with rfl|hb
   ·exact lt_trans DY ku
   ·refine aj (mem_map.mp hb) ?_;rintro j hj rfl;exact lt_trans (DU j (mem_range.mp hj)) ku
 ·simp only [mem_singleton];exact fun z=>jt I.aG.size z.symm
 ·refine⟨fun A' E' i va vb s₂ m₂ Z Z Z Z Z Z Z Z=>wpAny_pure ⟨rfl,⟨_,_,rfl,fun Z Z e=>e⟩⟩,fun A' E' i va vb s₂ m₂ hA dZ hun hP Z hns h1 h2 hkp=>?_⟩;refine au hP ?_;clear hP;intro hi hv;simp only [Array.mk.injEq,List.cons.injEq,and_true] at hv;refine au hv ?_;clear hv;rintro rfl rfl;refine helt A' E' i (ta i) (tb i) s₂ m₂ _ (by lia) hA dZ hun rfl I.en.globals rfl (fun a o ea ht=>?_) hns h1 h2
  have e4:=oG.keep a o ea ht;have halt:=lt_size e4;refine hkp a (mem_range.mpr halt) ?_ o (hhref _ _ e4);simp only [mem_singleton];rintro rfl;exact absurd (lt_of_lt_of_le (lt_size ea) (le_trans Fi.size I.aG.size)) (lt_irrefl _)
 ·intro a h₅ tk gs hbare rG OM Ol W hst;rw [Tz] at W;simp only [length_range] at W;rw [hlen] at W hst;refine hQ a _ _ _ _ { s with gens:=s.gens.push gs,toks:=tk,heap:=h₅ } W hst (fun b hb=>?_) (by simp) (fun i s₉ OJ=>OJ.1.typeIs) fun s'' mv=>?_
  ·show b<h₅.objs.size;rw [OM];rcases mem_cons.mp hb with rfl|hb
   ·exact lt_succ_self _
   ·rcases mem_cons.mp hb with rfl|hb
    ·exact lt_succ_of_lt rG
    ·have:=mem_range.mp hb;exact lt_succ_of_lt (lt_trans this rG)
  ·have FQ:∀b o,b≠h₄.objs.size→b≠s.heap.objs.size→h₄.get? b=some o→s''.heap.get? b=some o:=fun b o h1 h2 eb=>mv.heap b o (by simp only [mem_cons,not_mem_nil,or_false,not_or];exact⟨h1,h2⟩) (Ol b o eb)
   have hgen:a<s''.heap.objs.size:=by
    refine bG hst.1 ?_;intro o _ _ eo _;exact lt_size (mv.heap a o (by simp only [mem_cons,not_mem_nil,or_false,not_or];exact⟨ne_of_gt rG,ne_of_gt (lt_trans ku rG)⟩) eo)
   have Eg:h₄.objs.size≤s''.heap.objs.size:=le_of_lt (lt_trans rG hgen);have NQ:AllBare s''.gens:=GenOnlyQ.bare mv.gens (AllBare.push I.aG.gens hbare);have HT:aq X s'':=Iw (s₄:={ s with heap:=h₄,toks:=tk₄ }) Fi oG ⟨_,yj,by simp,by intro hh;refine bG hh ?_;clear hh;intro ws q t hw h1;cases hw;simp at h1⟩ I.aG.size (le_refl _) FQ mv.os NQ Eg
   have ET:∀b o,b≠Tb→s.heap.get? b=some o→s''.heap.get? b=some o:=fun b o hb eb=>FQ b o (ne_of_lt (lt_trans (lt_size eb) ku)) (ne_of_lt (lt_size eb)) (old b o hb eb);have vX:X.tab Tb:=mem_map.mpr ⟨_,GC.mem,rfl⟩;have St:Step X ρ ρ s.heap s''.heap:=⟨fun b o eb ht Z=>ET b o (fun z=>ht (z▸vX)) eb,prefix_refl _,fun Z q n=>absurd q n,fun Z q n=>absurd q n,le_trans (le_of_lt ku) Eg⟩;refine⟨HT,St,I.rel.mono (bS.weak (St.mono I.aG)) (fun b hb=>?_) St.size⟩;refine aA (I.rel.own hb) ?_;intro o eo;have hne:b≠Tb:=by
    rintro rfl;refine aj ((I.aG.tab _ _ GC.mem).ok) ?_;intro ps hT _;refine aj (dj.mp hb) ?_;intro p' fz hpa;obtain⟨i,hi,rfl⟩:=getElem_of_mem fz;refine aj (I.rel.get (getElem?_eq_getElem hi)) ?_;intro m' _ zV;exact (zV.kinds hpa hT).1 rfl
   rw [eo];exact ET b o hne eo
end
section
variable{X:Ctx}{T:Tables}
noncomputable abbrev Av(hh:Int)(kt:Tok)(init:Int)(t:Tok):Obj:={ cls:=.type "dict",data:=.dict #[⟨hh,.str "_initial_size" kt,.int init t⟩] 1 }
theorem JW:mG "list.__getattribute__" "__getattribute__" Builtin.«object.__getattribute__»:=⟨by decide+kernel,by decide+kernel,F.entry_list_ga,by decide+kernel⟩
section
variable{A:Around}{E:Value→Shared→Prop}{s:Shared}
theorem PA{K:Frag}{x Cl:Addr}{ox:Obj}{od:Option Obj}{name:Str}{expr:Bool}{v:Value}{Q:Value→Shared→Prop}(hK:K.In s.heap)(I:InstAt s.heap x ox Cl od)
 (hga:findIn K (.ref Cl) "__getattribute__"=some (some (.builtin "list.__getattribute__"))) (hgt:findIn K (.ref Cl) "__getattr__"=some none) (hL:mroIn K Cl (.type "list")=some true)
 (hf:findObj K Cl od name=some (.value v)) (hh:handedIn v=true) (h:Q v { s with toks:=s.toks+1 }):wpAny (model P X.w) A (getAttr (.ref x) name expr) Q E s:=by
 obtain⟨hp,g,d,t,os⟩:=s;have LT:=I.type (M:=model P X.w);have H8:=looks_findIn (M:=model P X.w) hK hga;have H9:=looks_findIn (M:=model P X.w) hK hgt;unfold getAttr getAttrBy;refine wpAny_bind (wpAny_mkText (wpAny_holding (wpAny_bind (LT.at (wpAny_bind (H8.at ?_))))));have hne:(onTheHeap (.ref Cl)&&(builtin "list.__getattribute__"==builtin "object.__getattribute__"))=false:=by
  show (true&&_)=false;rw [Bool.true_and];decide+kernel
 dsimp only;rw [hne,if_neg Bool.false_ne_true];unfold getAttrByItsOwn hookBefore;refine wpAny_bind ?_;show wpAny _ _ (typeLookup (.ref Cl) "__getattr__") _ _ _;refine H9.at ?_;refine wpAny_bind (wpAny_attempt ?_);refine wpAny_holding ?_;have hcg:callGetattribute (.ref x) (.str name t) (.builtin "list.__getattribute__") expr=boundAndCalled (.builtin "list.__getattribute__") (.ref x) (.str name t):=by
  cases expr<;>rfl
 rw [hcg];unfold boundAndCalled;rw [F.slot_list_getattribute.bind];refine wpAny_bind (wpAny_pure ?_);refine qT (s:=⟨hp,g,d,t+1,os⟩) JW hK I hL (F.args_list_getattribute_2 _ _) ?_;have L1:=looks_find (M:=model P X.w) hK I hf;unfold Builtin.«object.__getattribute__»;refine wpAny_bind (m:=slotArgs "__getattribute__" 1 _) (wpAny_of_eq (a:=(Value.ref x,[Value.str name t])) (by first|rfl|kernel_rfl) ?_)
 dsimp only;refine wpAny_bind (wpAny_of_eq (a:=name) (by first|rfl|kernel_rfl) ?_)
 refine wpAny_bind (LT.at (wpAny_bind (L1.at ?_)));refine wpAny_pure ⟨_,rfl,?_⟩;show wpAny _ _ (handedOut v) _ _ _;rw [handedOut_of hh];exact wpAny_pure h
end
end
section
variable{g:Value}{f:Str}{fp pos:Pos}{a:Expr}{Q:Value→Shared→Prop}
variable{X:Ctx}{T:Tables}
section
variable{A:Around}{E:Value→Shared→Prop}{s:Shared}{env:Env}
theorem zw(hg:∀b,g≠.ref b)(h:Heap):∃kp,(kp=Keeper.frame∨kp=Keeper.machine∨kp=Keeper.boundFrame)∧Looks (model P X.w) h (keeperOf g) kp:=
 ⟨.machine,.inr (.inl rfl),u6 hg⟩
theorem FT(ha:∀x p,a≠.Starred x p)(hg:∀b,g≠.ref b)(hd:(f==("__debug__":Str))=false)
 (h:wpAny (model P X.w) A (loadName env f) (fun v s₁=>v=g∧wpAny (model P X.w) A (eval a env) (fun v s₂=>wpAny (model P X.w) A (call g [v] []) Q E s₂) E s₁) E s) :
 wpAny (model P X.w) A (eval (.Call (.Name f fp) [a] [] pos) env) Q E s:=by
 rw [oY (by intro o nm p z;cases z)]
 refine wpAny_bind (wpAny_Name (wm h (fun v s₁ hv=>?_)) hd);refine au hv ?_;clear hv;rintro rfl hv;rw [iT ha,iB];refine mV rfl (evalArgs_plain (spliced_cons ?_));refine wm hv (fun w s₂ hw=>spliced_nil ⟨zw hg _,hw⟩)
theorem R6{b:Expr}(ha:∀x p,a≠.Starred x p)(hb:∀x p,b≠.Starred x p)(hg:∀b,g≠.ref b)(hd:(f==("__debug__":Str))=false)
 (h:wpAny (model P X.w) A (loadName env f) (fun v s₁=>v=g∧wpAny (model P X.w) A (eval a env) (fun v s₂=>wpAny (model P X.w) A (eval b env) (fun w s₃=>wpAny (model P X.w) A (call g [v,w] []) Q E s₃) E s₂) E s₁) E s) :
 wpAny (model P X.w) A (eval (.Call (.Name f fp) [a,b] [] pos) env) Q E s:=by
 rw [oY (by intro o nm p z;cases z)]
 refine wpAny_bind (wpAny_Name (wm h (fun v s₁ hv=>?_)) hd);refine au hv ?_;clear hv;rintro rfl hv;rw [iT ha,iB,iT hb,iB];refine mV rfl (evalArgs_plain (spliced_cons ?_));refine wm hv (fun w s₂ hw=>spliced_cons (wm hw (fun w' s₃ lO=>spliced_nil ⟨zw hg _,lO⟩)))
theorem E6{x:Str}{np:Pos}{v:Str}{t:Tok}{m:Str→Option Value}(hk:env.scope.kind=.function)(yM:env.kindOf "len"=some .globalImplicit)(hkx:env.kindOf x=some .local)(hx:(x==("__debug__":Str))=false)
 (hlen:Looks (model P X.w) s.heap (loadGlobal env "len") (.builtin "len")) (hns:s.heap.Ns env.locals m) (hm:m x=some (.str v t)) (hv:v.length<2^20) (hQ:∀t k,Q (.int v.length t) { s with toks:=k }) :
 wpAny (model P X.w) A (eval (.Call (.Name "len" fp) [.Name x np] [] pos) env) Q E s:=by
 refine FT (by intro _ _ z;cases z) (by intro b z;cases z) (by decide+kernel) (ks_loadName_global hk yM (hlen.here ⟨rfl,?_⟩))
 refine wpAny_Name (wpAny_loadName_local hk hkx hns hm ?_) hx;exact len_str (by lia) (hQ _ _)
end
end
section
variable{t:Str}{l:List V}
variable{X:Ctx}{T:Tables}
noncomputable def nY(l:List V)(j:Nat):Str:=((l[j]?).bind vC).elim ⟨#[]⟩ (·.1)
noncomputable def nZ(l:List V)(j:Nat):Str:=((l[j]?).bind vC).elim ⟨#[]⟩ (·.2)
theorem piece_cons{v:V}{r:List V}(h:pieceText (v::r)=some t):∃a b t',v=.tup [.str a,.str b]∧pieceText r=some t'∧t=a++b++t':=by
 refine aY h ?_;intro a b e h;refine bW h ?_;intro t' e' h;exact⟨a,b,t',Tr e,e',h.symm⟩
theorem Gm:∀{t:Str},pieceText l=some t→∀j,j<l.length→l[j]?=some (.tup [.str (nY l j),.str (nZ l j)]):=by
 induction l with
 | nil=>intro t _ j hj;cases hj
 | cons v r ih=>
  intro t h j hj;refine dw (piece_cons h) ?_;rintro a b t' rfl h' _;cases j with
  | zero=>rfl
  | succ j=>exact ih h' j (Nat.lt_of_succ_lt_succ hj)
noncomputable def kP(l:List V)(j:Nat):Int:=(nY l j).length+(nZ l j).length
theorem length_append(a b:Str):(a++b).length=a.length+b.length:=by
 show (a.cps++b.cps).size=_;simp [Str.length]
theorem Gn:∀{t:Str},pieceText l=some t→preSum (kP l) l.length=t.length:=by
 induction l with
 | nil=>intro t h;obtain rfl:=Option.some.inj h;rfl
 | cons v r ih=>
  intro t h;refine dw (piece_cons h) ?_;rintro a b t' rfl h' rfl;have e:kP (.tup [.str a,.str b]::r)=sL ((a.length:Int)+b.length) (kP r):=by
   funext j;cases j<;>rfl
  rw [e,length_cons,vI,ih h',length_append,length_append];lia
theorem sG{f:Nat→Int}(h:∀j,0≤f j):∀{n m:Nat},n≤m→preSum f n≤preSum f m
 | n,0,hle=>by rw [Nat.le_zero.mp hle];exact Int.le_refl _
 | n,m+1,hle=>by
  by_cases he:n=m+1
  ·subst he;exact Int.le_refl _
  ·have:=sG (f:=f) h (n:=n) (m:=m) (by lia)
   have:=h m;simp only [preSum];lia
theorem sF(l:List V)(j:Nat):0≤kP l j:=by unfold kP;lia
theorem z9(h:pieceText l=some t)(ht:t.length≤1024)(j:Nat)(hj:j<l.length):(nY l j).length≤1024∧(nZ l j).length≤1024:=by
 have e:=Gn h;have h1:=sG (sF l) (n:=j+1) (m:=l.length) hj;have h2:=sG (sF l) (n:=0) (m:=j) (by lia)
 simp only [preSum] at h1 h2;have h3:kP l j≤1024:=by lia
 unfold kP at h3;lia
theorem append_empty(x:Str):x++(⟨#[]⟩:Str)=x:=by
 show (⟨x.cps++#[]⟩:Str)=x;simp
theorem join_cons(x y:Str)(r:List Str):Txt.join ⟨#[]⟩ (x::y::r)=x++⟨#[]⟩++Txt.join ⟨#[]⟩ (y::r):=by
 show PySem.Builtin.Str.glued _ _=_++_++PySem.Builtin.Str.glued _ _;rw [PySem.StrLaws.glued_eq_join,PySem.StrLaws.glued_eq_join];rfl
theorem join_nil(x:Str)(l:List Str):Txt.join ⟨#[]⟩ (x::l)=x++Txt.join ⟨#[]⟩ l:=by
 cases l with
 | nil=>exact (append_empty x).symm
 | cons y r=>rw [join_cons,append_empty]
theorem TM:∀{t:Str},pieceText l=some t→t=Txt.join ⟨#[]⟩ ((List.range l.length).map fun j=>nY l j++nZ l j):=by
 induction l with
 | nil=>intro t h;obtain rfl:=Option.some.inj h;rfl
 | cons v r ih=>intro t h;refine dw (piece_cons h) ?_;rintro a b t' rfl h' rfl;rw [length_cons,List.range_succ_eq_map,map_cons,map_map,join_nil];exact congrArg _ (ih h')
end
section
variable{X:Ctx}{T:Tables}
theorem RY{wr:List Addr}{g:Nat}(s:Shared):Moved wr (GenOnlyQ g) s s:=⟨fun Z Z Z e=>e,.inl rfl,rfl,rfl,le_refl _⟩
structure wu(X:Ctx)(K:Frag):Prop where
 iter:findIn K (.ref aN) "__iter__"=some (some (.builtin "list.__iter__"))
 bf:∀h,Keeps X h→Looks (model P X.w) h (builtinsFor mainGlobals builtinsNs) builtinsNs
 size:∀hh kt init t,findObj K aN (some (Av hh kt init t)) "_initial_size"=some (.value (.int init t))
 len:∀h,Keeps X h→∀env:Env,env.globals=mainGlobals→env.builtins=builtinsNs→Looks (model P X.w) h (loadGlobal env "len") (.builtin "len")
 sum:∀h,Keeps X h→∀env:Env,env.globals=mainGlobals→env.builtins=builtinsNs→Looks (model P X.w) h (loadGlobal env "sum") (.builtin "sum")
theorem DE:("fws":Str)≠"part":=by decide+kernel
set_option maxHeartbeats 1000000 in
theorem QU{K:Frag}{cd:ClassData}(B:kY X T K cd)(BT:wu X K){k:Nat}(CO:bL X (C0 T) k){f c Tb:Addr}{fd:FuncData}{o:Obj}(MO:MethAt X f [] fd o)(hcode:fd.code=.ref c)(GC:oJ X (fd.qualname++".<locals>.") c Tb)
 {p1 p2 p3 p4 p5 p6 p7 p8 p9 nR nT nU nW kO nX z5 z6:Pos} {kt:Nat} {scope:Scope}
 (hbody:fd.body=.stmts [.Return (some (.Call (.Name "sum" p1) [.GeneratorExp (.BinOp (.Call (.Name "len" p2) [.Name "fws" p3] [] p4) .Add (.Call (.Name "len" p5) [.Name "part" p6] [] p7) p8)
  [⟨.Tuple [.Name "fws" p9,.Name "part" nR] kt nT,.Name "self" nU,[],0⟩] scope nW,.Attribute (.Name "self" kO) "_initial_size" nX] [] z5)) z6])
 (hloc:fd.scope.names.lookup ("self":Str)=some .local) (hsum:fd.scope.names.lookup ("sum":Str)=some .globalImplicit) (hb:∀(s:Shared) (a:Value),aq X s→BindsTo s fd ⟨[a],[]⟩ [(("self":Str),a)])
 (hco:scope.isCoroutine=false) (hfree:freeNames scope=[]) (hcell:∀y∈scope.names,y.2≠.cell) (h0:scope.names.lookup (".0":Str)=some NameKind.local) (hxa:scope.names.lookup ("fws":Str)=some .local) (hxb:scope.names.lookup ("part":Str)=some .local)
 (hkind:scope.kind=.function) (D8:scope.names.lookup ("len":Str)=some .globalImplicit)
 {A:Around} {E:Value→Shared→Prop} {ρ:aB} {σ:aa} {s:Shared} {v:Value} {m:Nat} {init:Int} {l:List V} {tx:Str} (dZ:A.depth<1000) (ni:∀env,aT k (A.deeper env)) (Am:aq X s) (R:Rel X ρ σ s.heap) (bg:∀a∈ρ.priv,bX s.heap a)
 (rv:VR X ρ s.heap v (.loc m)) (hm:σ[m]?=some (.acc init l)) (htx:pieceText l=some tx) (hlx:tx.length≤1024) (hin:init.natAbs≤1024) :
 wpAny (model P X.w) A (call (.ref f) [v] []) (aD X ρ s σ (.int (init+tx.length))) E s:=by
 refine FG MO hbody (ls:=["self"]) (by intro x hx;simp only [mem_singleton] at hx;rw [hx];exact hloc) dZ ni Am R bg (bs:=[(("self":Str),V.loc m)]) (hb s v Am) rfl (.cons rv .nil) (by intro b hb;simp only [mem_singleton] at hb;rw [hb];exact hloc) (by simp) ?_
 intro env h₁ tk A' bx iy G I;have sE:∀{me:ao},me.names=c7 ["self"]→∀a,Own env me a→a=s.heap.objs.size:=by
  intro me kj a ha;rcases ha with ha|⟨x,hx,_⟩
  ·rw [ha,bx];rfl
  ·rw [kj] at hx;exact absurd (lX hx).1 (by decide)
 have hself:∀{code:Value} {qual:Str},cy (C0 T) { names:=c7 ["self"],vals:=[(("self":Str),V.loc m)],code:=code,qual:=qual } "self"=some (V.loc m):=by intro code qual;kernel_rfl
 have yJ:env.scope.kind=.function:=by rw [bx];exact MO.kind
 refine PySem.wpAt_of_wpAny (wpAny_execs_cons (wpAny_Return_some ?_));refine R6 (g:=.builtin "sum") (by intro _ _ z;cases z) (by intro _ _ z;cases z) (by intro b z;cases z) (by decide+kernel) ?_
 refine ks_loadName_global yJ (by rw [bx];exact hsum) ((BT.sum _ I.aG.keeps env I.en.globals I.en.builtins).here ⟨rfl,?_⟩)
 refine DF B.ck B.keeps B.fM BT.iter GC BT.bf CO I hself hm (by rw [bx];exact hcode) (by rw [bx];rfl) iy.handled (by have:=iy.depth;lia) (Gm htx) hco hfree hcell h0 hxa hxb DE hkind
  (F:=fun i y=>∃t,y=.int (kP l i) t) ?_ ?_
 ·intro A₂ E₂ i ta tb s₂ m₂ env' hi hh dZ hun hsc hg' hb' hkp hns h1 h2;refine au (z9 htx hlx i hi) ?_;intro b1 b2;have hL:=BT.len _ hkp env' hg' hb';have kk:env'.scope.kind=.function:=by rw [hsc];exact hkind
  refine wpAny_BinOp (E6 kk (by show env'.scope.names.lookup _=_;rw [hsc];exact D8) (by show env'.scope.names.lookup _=_;rw [hsc];exact hxa) (by decide+kernel) hL hns h1 (by lia) fun t k=>?_)
  refine E6 (s:={ s₂ with toks:=k }) kk (by show env'.scope.names.lookup _=_;rw [hsc];exact D8) (by show env'.scope.names.lookup _=_;rw [hsc];exact hxb) (by decide+kernel) hL hns h2 (by lia) fun t' k'=>?_
  exact PyProof.Rows.add_int ⟨⟨_,rfl⟩,⟨_,_,rfl,fun Z Z e=>e⟩⟩
 ·intro a fp wr g St s' W hst hfp ha hT after;refine bO (after s' (RY s')) ?_;intro dc S' R';have H':=I.en.step I.aG I.rel S' rfl;refine Attribute_name ((gW CO hself dc H' (fun w rw'=>?_)).2);refine aj rw'.inv ?_;rintro p rfl e;refine aj (R'.get e) ?_;intro mo hmo om;obtain rfl:mo=.acc init l:=Option.some.inj (hmo.symm.trans hm);refine cY om.inv ?_;rintro ax d vs rfl at' rs hpl;obtain⟨nn,t0,hh,EY,e1,e2⟩:=at';have Ia:InstAt s'.heap ax ⟨.ref aN,some d,.seq vs nn,#[]⟩ aN (some (Av hh EY init t0)):=⟨e1,rfl,rfl,e2⟩;refine PA (B.keeps _ dc.keeps) Ia B.ck.ga B.ck.gt B.ck.jQ (BT.size hh EY init t0) rfl ?_;have long:∀x:Int,-4096≤x→x≤4096→InLong x:=fun x h1 h2=>⟨Int.le_trans (by decide) h1,Int.lt_of_le_of_lt h2 (by decide)⟩
  have Nt:InLong init:=long _ (by lia) (by lia)
  have hpl:=Gn htx;refine KO Nt (W.in4_1.self 0 _ _ _ (W.frame 0 s' s'.heap (s'.toks+1) hst (le_succ _) fun Z Z Z e=>e) (O4 a _ _ _ _ _ _ (kP l) rfl W.in4_1 (W.frame 0 s' s'.heap (s'.toks+1) hst (le_succ _) fun Z Z Z e=>e) hfp ?_ ?_ ?_))
  ·intro i v hh;obtain⟨j,hj,t,rfl⟩:=hh;refine aA (List.getElem?_eq_some_iff.mp hj) ?_;intro h1 h2;simp only [List.getElem_range] at h2;subst h2;exact⟨t,rfl⟩
  ·intro j hj;have h1:=sG (sF l) (n:=j+1) (m:=l.length) hj;have h2:=sG (sF l) (n:=0) (m:=j) (zero_le _);have h3:=sF l j;simp only [preSum] at h1 h2;simp only [preSum];exact⟨long _ (by lia) (by lia),long _ (by lia) (by lia)⟩
  ·intro s'' t' mv;refine bO (after s'' ⟨mv.heap,mv.gens,mv.drawn,mv.os,le_trans (le_succ _) mv.toks⟩) ?_;intro dH S2 R2;rw [hpl];exact⟨ρ.ah,_,_,.ret (.int _ t'),.inl rfl,I.after S2 dH R2,S2.fk⟩
end
section
variable{K:Frag}{x f Cl:Addr}{ox:Obj}{od:Option Obj}{Q:Value→Shared→Prop}
variable{X:Ctx}{T:Tables}
section
variable{A:Around}{E:Value→Shared→Prop}{s:Shared}{env:Env}
theorem PD{n:Int}(hK:K.In s.heap)(I:InstAt s.heap x ox Cl od)(hf:findIn K (.ref Cl) "__len__"=some (some (.ref f)))(ht:typeIn K (.ref f)=some (.type "function"))
 (h0:0≤n) (hn:n<2^63) (h:wpAny (model P X.w) A.in1 (call (.ref f) [.ref x] []) (fun v s'=>∃t,v=.int n t∧∀t' k,Q (.int n t') { s' with toks:=k }) E s):wpAny (model P X.w) A (call (.builtin "len") [.ref x] []) Q E s:=by
 refine Calls.call_function_entry kind_len plain_len entry_len (args_len1 _) ?_;unfold Builtin.«len»;refine wpAny_bind (m:=oneArg "len" _) (wpAny_pure ?_);refine wpAny_bind (m:=callSpecial? (.ref x) (ofString "__len__")) (special_fn hK I hf ht (wpAny_mono h (fun v s' hv=>?_) fun Z Z e=>e));refine aj hv ?_;clear hv;rintro t rfl hQ;refine wpAny_bind (wpAny_holding (wpAny_pure ?_));refine wpAny_bind (wpAny_letGo ?_);show wpAny _ _ (if n<0 then _ else _) _ _ _
 rw [if_neg (by lia)]
 show wpAny _ _ (if n ≥ 2^63 then _ else _) _ _ _
 rw [if_neg (by lia)]
 exact wpAny_bind (wpAny_mkInt (wpAny_pure ⟨_,rfl,hQ _ _⟩))
theorem PG(hK:K.In s.heap)(I:InstAt s.heap x ox Cl od)(hf:findIn K (.ref Cl) "__str__"=some (some (.ref f)))(ht:typeIn K (.ref f)=some (.type "function"))
 (hu:A.units+2<9900) (h:wpAny (model P X.w) A.in1.in1 (call (.ref f) [.ref x] []) (fun v s'=>∃y t,v=.str y t∧Q v s') E s):wpAny (model P X.w) A (call (.type "str") [.ref x] []) Q E s:=by
 have hS:∀(A₂:Around) (R:Result→Shared→Prop) (s₂:Shared),wpAny (model P X.w) A₂.in1 (Builtin.Str.strOf (.ref x)) (fun r s'=>R (.ok (.ret r)) s') (fun e s'=>R (.error e) s') s₂→
  wpAny (model P X.w) A₂.in1 (Builtin.«str.__new__» ⟨[.type "str",.ref x],[]⟩) (fun fin s'=>∃v,fin=.done (.ret v)∧R (.ok (.ret v)) s') (fun e s'=>R (.error e) s') s₂:=by
  intro A₂ R s₂ hs;rw [str_new_tree];refine wpAny_bind (wpAny_pure ?_);refine wpAny_bind (wpAny_of_eq isSubtype_str_str ?_);exact wpAny_bind (wpAny_mono hs (fun r s' h'=>wpAny_pure ⟨_,rfl,h'⟩) fun Z Z e=>e)
 refine callType_newIn (S:=fun A₂ R s₂=>wpAny (model P X.w) A₂.in1 (Builtin.Str.strOf (.ref x)) (fun r s'=>R (.ok (.ret r)) s') (fun e s'=>R (.error e) s') s₂) F.called_str (by decide) (F.typeCall_str_1 _) (F.newCall_str_1 _) (fun obj=>F.args_object_init_2 obj _) F.entry_str_new
  (.of_wp hS) ?_
 unfold Builtin.Str.strOf;rw [if_neg (by simp [Builtin.Str.isExactStr])]
 refine wpAny_bind (wpAny_cRoomFor (by show A.units+1+1<9900;omega) ?_)
 refine wpAny_bind (m:=callSpecial? (.ref x) (ofString "__str__")) (special_fn hK I hf ht (wpAny_mono h (fun v s' hv=>?_) fun Z Z e=>e));refine bK hv ?_;clear hv;rintro y t rfl hQ;refine wpAny_bind (wpAny_pure ?_);rw [if_neg (by simp)]
 exact wpAny_pure ⟨typeIs_str _ _ _,hQ⟩
theorem zI{o nm:Str}{op ap pos:Pos}{a:Expr}{ov g:Value}(ha:∀x p,a≠.Starred x p)(hg:∀b,g≠.ref b)(hd:(o==("__debug__":Str))=false)(hl:(ap.endLine==pos.line)=true)
 (h:wpAny (model P X.w) A (loadName env o) (fun v s₁=>v=ov∧(∀pl:Sem Bool,∀Q':Value×List Value→Shared→Prop,Q' (g,[ov]) s₁→wpAny (model P X.w) A (getMethod ov nm pl) Q' E s₁)∧wpAny (model P X.w) A (eval a env) (fun v s₂=>wpAny (model P X.w) A (call g [ov,v] []) Q E s₂) E s₁) E s) :
 wpAny (model P X.w) A (eval (.Call (.Attribute (.Name o op) nm ap) [a] [] pos) env) Q E s:=by
 show wpAny _ A (do
  let ov ←attributeBase (.Name o op) nm env (eval (.Name o op) env)
  standAt ap.atName
  methodCall (.Name o op) nm ap pos env ov (1+([]:List Keyword).length) (backTo pos (starEach [a] env)) (backToKw pos (keywordEach [] env))) _ E s
 rw [base_eq rfl];refine wpAny_bind (wpAny_Name (wm h (fun v s₁ hv=>?_)) hd);refine bO hv ?_;clear hv;rintro rfl hm hv;refine wpAny_bind (wpAny_standAt ?_);rw [iT ha,iB];unfold methodCall;have hfew:methodCallForm (1+([]:List Keyword).length) ((false,eval a env)::backTo pos (starEach [] env)) (backToKw pos (keywordEach [] env))=true:=rfl;rw [hfew];show wpAny _ A (holding [v] (getMethod v nm (do return (←importBound (.Name o op) env).getD true))>>=fun x=>methodCallPos true (.Name o op) env ap pos>>=fun qR=>callWith qR x.1 x.2 ((false,eval a env)::backTo pos (starEach [] env)) (backToKw pos (keywordEach [] env))) _ E s₁
 refine wpAny_bind (wpAny_holding (hm _ _ ?_));have hp:methodCallPos true (.Name o op) env ap pos=pure pos:=by
  unfold methodCallPos;exact if_pos (by rw [hl];rfl)
 rw [hp];refine wpAny_bind (wpAny_pure ?_);refine mV rfl (evalArgs_plain (spliced_cons ?_));exact wm hv (fun w s₂ hw=>spliced_nil ⟨zw hg _,hw⟩)
end
end
section
variable{X:Ctx}{T:Tables}
noncomputable abbrev jI:Str:=⟨#[]⟩
structure AccStr(X:Ctx):Prop where
 emp:∀h,Keeps X h→∀env:Env,env.globals=mainGlobals→env.builtins=builtinsNs→∃t,Looks (model P X.w) h (loadGlobal env "EMPTYSTRING") (.str jI t)
theorem Vr{B:Nat}:∀{l:List Nat},(∀x∈l,x≤B)→l.sum≤l.length*B:=by
 intro l
 induction l with
 | nil=>intro _;simp
 | cons x r rc=>
  intro h;have h1:=h x (by simp)
  have h2:=rc fun y hy=>h y (by simp [hy])
  rw [sum_cons,length_cons,Nat.succ_mul,add_comm];exact add_le_add h2 h1
theorem Qu(a b:Str):Txt.join jI [a,b]=a++b:=by
 have:Txt.join jI [a,b]=a++jI++b:=by
  show PySem.Builtin.Str.glued _ _=_;rw [PySem.StrLaws.glued_eq_join];rfl
 rw [this,append_empty]
theorem Qo{n:Nat}{f:Nat→Str}{lt:List (Str×Tok)}(h:ItemsOf (fun j y=>∃i,(List.range n)[j]?=some i∧∃t,y=Value.str (f i) t) (strValues lt).toArray n):lt.map (·.1)=(List.range n).map f:=by
 refine au h ?_;clear h;intro h1 h2;have hlen:lt.length=n:=by simpa [strValues] using h1
 refine List.ext_getElem (by simp [hlen]) fun j hj1 hj2=>?_
 have hj:j<lt.length:=by simpa using hj1
 obtain⟨i,hi,t,ht⟩:=h2 j (.str lt[j].1 lt[j].2) (by simp [strValues,hj])
 refine aA (List.getElem?_eq_some_iff.mp hi) ?_;intro _ h3;simp only [List.getElem_range] at h3;subst h3;simp only [Value.str.injEq] at ht;simp [ht.1]
set_option maxHeartbeats 1000000 in
theorem Vn{K:Frag}{cd:ClassData}(B:kY X T K cd)(BT:wu X K)(BS:AccStr X){k:Nat}(CO:bL X (C0 T) k){f c Tb:Addr}{fd:FuncData}{o:Obj}(MO:MethAt X f [] fd o)(hcode:fd.code=.ref c)(GC:oJ X (fd.qualname++".<locals>.") c Tb)
 {p1 p2 p3 p4 p5 p6 p7 p8 p9 nR nT nU nW kO nX:Pos} {kt zy:Nat} {scope:Scope} (hl1:(p2.endLine==kO.line)=true) (hl2:(p4.endLine==p8.line)=true)
 (hbody:fd.body=.stmts [.Return (some (.Call (.Attribute (.Name "EMPTYSTRING" p1) "join" p2) [.GeneratorExp (.Call (.Attribute (.Name "EMPTYSTRING" p3) "join" p4) [.Tuple [.Name "fws" p5,.Name "part" p6] zy p7] [] p8)
  [⟨.Tuple [.Name "fws" p9,.Name "part" nR] kt nT,.Name "self" nU,[],0⟩] scope nW] [] kO)) nX])
 (hloc:fd.scope.names.lookup ("self":Str)=some .local) (yE:fd.scope.names.lookup ("EMPTYSTRING":Str)=some .globalImplicit) (hb:∀(s:Shared) (a:Value),aq X s→BindsTo s fd ⟨[a],[]⟩ [(("self":Str),a)])
 (hco:scope.isCoroutine=false) (hfree:freeNames scope=[]) (hcell:∀y∈scope.names,y.2≠.cell) (h0:scope.names.lookup (".0":Str)=some NameKind.local) (hxa:scope.names.lookup ("fws":Str)=some .local) (hxb:scope.names.lookup ("part":Str)=some .local)
 (hkind:scope.kind=.function) (Oc:scope.names.lookup ("EMPTYSTRING":Str)=some .globalImplicit)
 {A:Around} {E:Value→Shared→Prop} {ρ:aB} {σ:aa} {s:Shared} {v:Value} {m:Nat} {init:Int} {l:List V} {tx:Str} (dZ:A.depth<1000) (ni:∀env,aT k (A.deeper env)) (Am:aq X s) (R:Rel X ρ σ s.heap) (bg:∀a∈ρ.priv,bX s.heap a)
 (rv:VR X ρ s.heap v (.loc m)) (hm:σ[m]?=some (.acc init l)) (htx:pieceText l=some tx) (hlx:tx.length≤1024) (hn:l.length≤64) :
 wpAny (model P X.w) A (call (.ref f) [v] []) (aD X ρ s σ (.str tx)) E s:=by
 refine FG MO hbody (ls:=["self"]) (by intro x hx;simp only [mem_singleton] at hx;rw [hx];exact hloc) dZ ni Am R bg (bs:=[(("self":Str),V.loc m)]) (hb s v Am) rfl (.cons rv .nil) (by intro b hb;simp only [mem_singleton] at hb;rw [hb];exact hloc) (by simp) ?_
 intro env h₁ tk A' bx iy G I;have hself:∀{code:Value} {qual:Str},cy (C0 T) { names:=c7 ["self"],vals:=[(("self":Str),V.loc m)],code:=code,qual:=qual } "self"=some (V.loc m):=by intro code qual;kernel_rfl
 have yJ:env.scope.kind=.function:=by rw [bx];exact MO.kind
 have meth:∀{A₂:Around} {E₂:Value→Shared→Prop} {s₂:Shared} {te:Tok} (pl:Sem Bool) (Q':Value×List Value→Shared→Prop),Q' (.builtin "str.join",[.str jI te]) s₂→wpAny (model P X.w) A₂ (getMethod (.str jI te) "join" pl) Q' E₂ s₂:=
  fun pl Q' ng=>getMethod_builtin (typeIs_str _ _ _) F.plainAttrs_str F.slot_str_join F.type_str_join (fun a z=>noConfusion z) ng
 refine PySem.wpAt_of_wpAny (wpAny_execs_cons (wpAny_Return_some ?_));refine aA (BS.emp _ I.aG.keeps env I.en.globals I.en.builtins) ?_;intro te hE;refine zI (g:=.builtin "str.join") (ov:=.str jI te) (by intro _ _ z;cases z) (by intro b z;cases z) (by decide+kernel) hl1 ?_
 refine ks_loadName_global yJ (by rw [bx];exact yE) (hE.here ⟨rfl,fun pl Q' ng=>meth pl Q' ng,?_⟩)
 refine DF B.ck B.keeps B.fM BT.iter GC BT.bf CO I hself hm (by rw [bx];exact hcode) (by rw [bx];rfl) iy.handled (by have:=iy.depth;lia) (Gm htx) hco hfree hcell h0 hxa hxb DE hkind
  (F:=fun i y=>∃t,y=.str (nY l i++nZ l i) t) ?_ ?_
 ·intro A₂ E₂ i ta tb s₂ m₂ env' hi hh dZ hun hsc hg' hb' hkp hns h1 h2;refine au (z9 htx hlx i hi) ?_;intro b1 b2;have kk:env'.scope.kind=.function:=by rw [hsc];exact hkind
  have kn:∀x,env'.kindOf x=scope.names.lookup x:=fun x=>by show env'.scope.names.lookup _=_;rw [hsc]
  refine aA (BS.emp _ hkp env' hg' hb') ?_;intro VP Nm;refine zI (g:=.builtin "str.join") (ov:=.str jI VP) (by intro _ _ z;cases z) (by intro b z;cases z) (by decide+kernel) hl2 ?_
  refine ks_loadName_global kk (by rw [kn];exact Oc) (Nm.here ⟨rfl,fun pl Q' ng=>meth pl Q' ng,?_⟩)
  refine wpAny_Tuple ?_;rw [iT (by intro _ _ z;cases z),iB,iT (by intro _ _ z;cases z),iB]
  refine spliced_cons (wpAny_Name (wpAny_loadName_local kk (by rw [kn];exact hxa) hns h1 (spliced_cons (wpAny_Name (wpAny_loadName_local kk (by rw [kn];exact hxb) hns h2 (spliced_nil ⟨(show 2≤sizeLine by decide),?_⟩)) (by decide+kernel)))) (by decide+kernel))
  refine join_tuple ⟨_,get?_push_size _ rfl,rfl,0,rfl⟩ (.cons _ _ (.cons _ _ .nil)) (by simp [show jI.length=0 from rfl];lia) fun t' k'=>?_
  rw [Qu];exact⟨⟨_,rfl⟩,⟨_,_,rfl,fun Z Z e=>get?_push_of_some _ e⟩⟩
 ·intro a fp wr g St s' W hst hfp ha hT after;refine SC.joinGen W.in4_2 hT hst hfp ha (fun j v ⟨i,_,t,e⟩=>⟨_,t,e⟩) (fun s'' lt mv hacc=>?_) (by have hsl:sizeLine=2^24:=rfl;lia)
  have Ei:=Qo hacc;refine bO (after s'' mv) ?_;intro dH S2 R2;have hB:∀y∈(List.range l.length).map (fun j=>nY l j++nZ l j),y.length≤2048:=by
   intro y hy;refine aj (mem_map.mp hy) ?_;rintro j hj rfl;refine au (z9 htx hlx j (mem_range.mp hj)) ?_;intro b1 b2;rw [length_append];lia
  refine⟨?_,fun t' k'=>?_⟩
  ·rw [Ei];refine joinOk_of_weight ?_ (by simp [Str.length])
   have h1:=Vr (B:=2048) (l:=((List.range l.length).map fun j=>nY l j++nZ l j).map (·.length)) fun x hx=>by
    refine aj (mem_map.mp hx) ?_;rintro y hy rfl;exact hB y hy
   simp only [length_map,length_range] at h1 ⊢;lia
  ·rw [Ei,←TM htx];have wz:aq X ({ s'' with toks:=k' }:Shared):=dH.grown (aM.refl _)
   exact⟨ρ.ah,_,_,.ret (.str _ t'),.inl rfl,I.after (s₁:={ s'' with toks:=k' }) S2 wz R2,S2.fk⟩
end
section
variable{X:Ctx}{T:Tables}
noncomputable def UU(ps:Arguments):Prop:=∃ar,(ps.posonlyargs++ps.args).head?=some ar∧ar.arg="self"
inductive wQ:List Stmt→Prop
 | mk {p0 ap q sp p1 p2 tp:Pos}:(ap.endLine==q.line)=true→wQ [.Expr (.Call (.Attribute (.Name "self" p0) "append" ap) [.Tuple [.Name "fws" p1,.Name "string" p2] 0 tp] [] q) sp]
inductive wN:List Stmt→Prop
 | mk {p1 p2 p3 p4 p5 p6 q1 q2 q3 q4 q5 q6 r1 r2:Pos}:wN [.Assign [.Name "popped" p1] (.Subscript (.Name "self" p2) (.Slice (some (.Name "i" p3)) none none p4) p5) p6,
  .Assign [.Subscript (.Name "self" q1) (.Slice (some (.Name "i" q2)) none none q3) q4] (.List [] q5) q6,.Return (some (.Name "popped" r1)) r2]
inductive wM:List Stmt→Prop
 | mk {p0 ap q cp ip tp rp c1 c2 c3 q0 q1 qa qq rq:Pos}:(ap.endLine==q.line)=true→(qa.endLine==qq.line)=true→wM [.If (.Compare (.Call (.Attribute (.Name "self" p0) "part_count" ap) [] [] q) [.Eq] [.Constant (.int 0) 0 c1] cp) [.Return (some (.Tuple [.Constant (.str "") 0 c2,.Constant (.str "") 0 c3] 0 tp)) rp] [] ip,
  .Return (some (.Call (.Attribute (.Call (.Name "super" q0) [] [] q1) "pop" qa) [] [] qq)) rq]
inductive wC:List Stmt→Prop
 | mk {p0 p1 ap q rp:Pos}:(ap.endLine==q.line)=true→wC [.Return (some (.Call (.Attribute (.Call (.Name "super" p0) [] [] p1) "__len__" ap) [] [] q)) rp]
inductive wH:List Stmt→Prop
 | mk {p1 p2 p3 p4 q0 q1 qa qq sp:Pos}:(qa.endLine==qq.line)=true→wH [.Assign [.Attribute (.Name "self" p1) "_initial_size" p2] (.Name "initial_size" p3) p4,.Expr (.Call (.Attribute (.Call (.Name "super" q0) [] [] q1) "__init__" qa) [] [] qq) sp]
structure Bh(scope:Scope)(g:Str):Prop where
 co:scope.isCoroutine=false
 free:freeNames scope=[]
 cell:∀y∈scope.names,y.2≠.cell
 h0:scope.names.lookup (".0":Str)=some NameKind.local
 xa:scope.names.lookup ("fws":Str)=some .local
 xb:scope.names.lookup ("part":Str)=some .local
 kind:scope.kind=.function
 glob:scope.names.lookup g=some .globalImplicit
inductive wK:List Stmt→Prop
 | mk {p1 p2 p3 p4 p5 p6 p7 p8 p9 nR nT nU nW kO nX z5 z6:Pos} {kt:Nat} {scope:Scope}:Bh scope "len"→wK [.Return (some (.Call (.Name "sum" p1) [.GeneratorExp (.BinOp (.Call (.Name "len" p2) [.Name "fws" p3] [] p4) .Add (.Call (.Name "len" p5) [.Name "part" p6] [] p7) p8)
  [⟨.Tuple [.Name "fws" p9,.Name "part" nR] kt nT,.Name "self" nU,[],0⟩] scope nW,.Attribute (.Name "self" kO) "_initial_size" nX] [] z5)) z6]
inductive wW:List Stmt→Prop
 | mk {p1 p2 p3 p4 p5 p6 p7 p8 p9 nR nT nU nW kO nX:Pos} {kt zy:Nat} {scope:Scope}:(p2.endLine==kO.line)=true→(p4.endLine==p8.line)=true→Bh scope "EMPTYSTRING"→
  wW [.Return (some (.Call (.Attribute (.Name "EMPTYSTRING" p1) "join" p2) [.GeneratorExp (.Call (.Attribute (.Name "EMPTYSTRING" p3) "join" p4) [.Tuple [.Name "fws" p5,.Name "part" p6] zy p7] [] p8)
   [⟨.Tuple [.Name "fws" p9,.Name "part" nR] kt nT,.Name "self" nU,[],0⟩] scope nW] [] kO)) nX]
structure Ie(X:Ctx)(f:Addr)(fd:FuncData)(o:Obj)(b:List Stmt):Prop where
 at':MethAt X f [] fd o
 text:wQ b
 body:fd.body=.stmts b
 loc:∀x∈[("self":Str),("fws":Str),("string":Str)],fd.scope.names.lookup x=some .local
 binds:∀(s:Shared) (a b c:Value),aq X s→BindsTo s fd ⟨[a,b,c],[]⟩ [(("self":Str),a),(("fws":Str),b),(("string":Str),c)]
structure Ic(X:Ctx)(f:Addr)(fd:FuncData)(o:Obj)(b:List Stmt):Prop where
 at':MethAt X f [] fd o
 text:wN b
 body:fd.body=.stmts b
 loc:∀x∈[("self":Str),("i":Str),("popped":Str)],fd.scope.names.lookup x=some .local
 binds:∀(s:Shared) (a b:Value),aq X s→BindsTo s fd ⟨[a,b],[]⟩ [(("self":Str),a),(("i":Str),b)]
structure tw(X:Ctx)(f cc:Addr)(fd:FuncData)(o:Obj):Prop where
 ok:mJ X f cc fd o
 hsup:fd.scope.names.lookup ("super":Str)=some .globalImplicit
 hcls:fd.scope.names.lookup ("__class__":Str)=some .free
structure Ib(X:Ctx)(f cc:Addr)(fd:FuncData)(o:Obj)(b:List Stmt):Prop where
 sup:tw X f cc fd o
 at':MethAt X f [(("__class__":Str),cc)] fd o
 text:wM b
 body:fd.body=.stmts b
 par:kL fd.params=some "self"
 self:fd.scope.names.lookup ("self":Str)=some .local
 binds:∀(s:Shared) (a:Value),aq X s→BindsTo s fd ⟨[a],[]⟩ [(("self":Str),a)]
structure HU(X:Ctx)(f cc:Addr)(fd:FuncData)(o:Obj)(b:List Stmt)(sn:Str):Prop where
 sup:tw X f cc fd o
 text:wC b
 body:fd.body=.stmts b
 par:kL fd.params=some sn
 d1:fd.defaults=.none
 d2:fd.kwdefaults=.none
 self:fd.scope.names.lookup sn=some .local
 jT:∀x∈fd.scope.names,x.2≠.cell
structure HY(X:Ctx)(K:Frag)(f cc:Addr)(fd:FuncData)(o:Obj)(b:List Stmt):Prop where
 sup:tw X f cc fd o
 at':MethAt X f [(("__class__":Str),cc)] fd o
 hin:findIn K (.ref aN) "__init__"=some (some (.ref f))
 v8:typeIn K (.ref f)=some (.type "function")
 text:wH b
 body:fd.body=.stmts b
 par:UU fd.params
 self:fd.scope.names.lookup ("self":Str)=some .local
 size:fd.scope.names.lookup ("initial_size":Str)=some .local
 binds:∀(s:Shared) (a b:Value),aq X s→BindsTo s fd ⟨[a,b],[]⟩ [(("self":Str),a),(("initial_size":Str),b)]
structure Bg(X:Ctx)(K:Frag)(nm g:Str)(f c Tb:Addr)(fd:FuncData)(o:Obj)(b:List Stmt):Prop where
 hin:findIn K (.ref aN) nm=some (some (.ref f))
 v8:typeIn K (.ref f)=some (.type "function")
 at':MethAt X f [] fd o
 code:fd.code=.ref c
 gen:oJ X (fd.qualname++".<locals>.") c Tb
 body:fd.body=.stmts b
 self:fd.scope.names.lookup ("self":Str)=some .local
 glob:fd.scope.names.lookup g=some .globalImplicit
 binds:∀(s:Shared) (a:Value),aq X s→BindsTo s fd ⟨[a],[]⟩ [(("self":Str),a)]
structure sZ(X:Ctx)(T:Tables)(K:Frag)(cd:ClassData):Prop where
 base:kY X T K cd
 items:A6 K
 make:wB K cd
 text:wu X K
 str:AccStr X
 htop:(P.main.scope.names.lookup ("super":Str)).isSome=false
 acc:T.acc=aN
 push:∃fd o b,Ie X T.push fd o b
 iO:∃fd o b,Ic X T.iO fd o b
 pop:∃cc fd o b,Ib X T.pop cc fd o b
 count:∃cc fd o b sn,HU X T.count cc fd o b sn
 init:∃f cc fd o b,HY X K f cc fd o b
 E7:∃f c Tb fd o b,wK b∧Bg X K "__len__" "sum" f c Tb fd o b
 strm:∃f c Tb fd o b,wW b∧Bg X K "__str__" "EMPTYSTRING" f c Tb fd o b
end
section
variable{A:Around}{K:Frag}{cd:ClassData}{σ:aa}{u:V}
variable{X:Ctx}{T:Tables}
theorem aT.low{k:Nat}(R:aT k A):A.depth<1000:=by have:=R.depth;lia
theorem LG:(ofString "")=(⟨#[]⟩:Str):=by kernel_rfl
theorem xD(AF:sZ X T K cd)(k:Nat):bL X (C0 T) k:=by
 refine tY AF.count ?_;intro cc fd o b sn F;obtain⟨hl⟩:=F.text;exact KD AF.base fun Rm Am R rv hm hn=>CA AF.base.ck AF.base.keeps F.sup.ok F.body F.par F.d1 F.d2 F.sup.hsup F.sup.hcls F.self F.jT AF.htop hl Rm.low Am R rv hm hn
theorem Io(AF:sZ X T K cd)(k:Nat){a:Addr}{us:List V}{σ':aa}(h:tD T a us σ=some (u,σ')){E:Value→Shared→Prop}{ρ:aB}{s:Shared}{vs:List Value}
 (Rm:aT (k+1) A) (Am:aq X s) (R:Rel X ρ σ s.heap) (bg:∀a∈ρ.priv,bX s.heap a) (rs:aC X ρ s.heap vs us):wpAny (model P X.w) A (call (.ref a) vs []) (aD X ρ s σ' u) E s:=by
 have CO:=xD AF k;cases us with
 | nil=>exact nn h
 | cons ov rest=>
  refine fL h ?_;clear h;intro m init l e0 h;refine au (qJ e0) ?_;rintro rfl hm;clear e0;replace rs:=rs.inv;refine bw rs ?_;clear rs;rintro v ws rfl rv rs;replace h:=cJ h;rcases h with⟨rfl,h⟩|⟨_,h⟩
  ·refine cps fun Z kk=>?_;refine aY h ?_;clear h;intro x y e1 h;refine aH h ?_;clear h;intro x' e2 h;refine aH h ?_;clear h;intro y' e3 h;refine bJ h ?_;clear h;intro hn h;refine kk ?_;clear kk;refine cB h ?_;refine bw (qA e1 rs) ?_;rintro v1 v2 rfl r1 r2;obtain rfl:=iU e2;obtain rfl:=iU e3;refine lD AF.push ?_;intro fd o b F;obtain⟨hl⟩:=F.text;exact Ud AF.base CO F.at' hl F.body F.loc F.binds Rm Am R bg rv r1 r2 hm hn
  replace h:=cJ h;rcases h with⟨rfl,h⟩|⟨_,h⟩
  ·refine cps fun Z kk=>?_;refine aH h ?_;clear h;intro x e1 h;refine aH h ?_;clear h;intro i e2 h;refine bJ h ?_;clear h;intro hn h;refine kk ?_;clear kk;refine cB h ?_;refine aj (ju e1 rs) ?_;rintro v1 rfl r1;obtain rfl:=eu e2;refine lD AF.iO ?_;intro fd o b F;cases F.text;exact T4 AF.base AF.items CO F.at' F.body F.loc F.binds Rm Am R bg rv r1 hm hn.1 hn.2.2
  replace h:=cJ h;rcases h with⟨rfl,h⟩|⟨_,h⟩
  ·refine bZ h ?_;clear h;intro hh;refine au hh ?_;clear hh;rintro rfl hn;intro h;obtain rfl:=rs.nil_inv;refine o9 AF.pop ?_;intro cc fd o b F;obtain⟨hl,hl2⟩:=F.text;have hp:=TX (E:=E) AF.base CO F.sup.ok F.at' hl hl2 F.body F.par F.sup.hsup F.sup.hcls F.self AF.htop F.binds Rm Am R bg rv hm hn;refine wpAny_mono hp (fun w s' hw=>?_) fun Z Z e=>e;cases hg:l.getLast? with
   | none=>rw [hg] at h hw;refine au (fT h) ?_;rintro rfl rfl;rw [LG] at hw;exact hw
   | some x=>rw [hg] at h hw;refine au (fT h) ?_;rintro rfl rfl;exact hw
  ·refine bZ h ?_;clear h;rintro rfl h;refine bJ h ?_;clear h;intro hh;refine au hh ?_;clear hh;rintro rfl hn;intro h;refine cB h ?_;obtain rfl:=rs.nil_inv;refine tY AF.count ?_;intro cc fd o b sn F;obtain⟨hl⟩:=F.text;exact CA AF.base.ck AF.base.keeps F.sup.ok F.body F.par F.d1 F.d2 F.sup.hsup F.sup.hcls F.self F.jT AF.htop hl Rm.low Am R rv hm (by lia)
theorem Bo{i:Int}{x:Str}(h:qK σ u=some (i,x)):∃m l,u=.loc m∧σ[m]?=some (.acc i l)∧l.length≤64∧pieceText l=some x∧x.length≤1024∧i.natAbs≤1024∧0≤i:=by
 refine fL h ?_;clear h;intro m init l e0 h;refine au (qJ e0) ?_;rintro rfl hm;refine cps fun Z kk=>?_;refine bZ h ?_;clear h;intro hn h;refine aH h ?_;clear h;intro t ht h;refine bJ h ?_;clear h;intro hc h;refine kk ?_;clear kk;refine au (Prod.mk.inj h) ?_;rintro rfl rfl;exact⟨m,l,rfl,hm,hn,ht,hc⟩
theorem Il(AF:sZ X T K cd)(k:Nat):qF X T k where
 own:=fun h=>fun Rm Am R bg rs=>Io AF k h Rm Am R bg rs
 make:=fun hi=>fun {A E ρ σ s t} Rm Am R bg=>by
  refine tY AF.init ?_;intro f cc fd o b F;obtain⟨hl2⟩:=F.text;rw [AF.acc];exact Ry AF.base.ck AF.make AF.base.keeps F.sup.ok F.at' F.hin F.v8 hl2 F.body F.par F.sup.hsup F.sup.hcls F.self F.size AF.htop F.binds Rm Am R
 len:=fun {σ u i x} h=>fun {A E ρ s v} Rm Am R bg rv=>by
  refine CI (Bo h) ?_;rintro m l rfl hm hn ht hc1 hc2 hc3;obtain⟨f,c,Tb,fd,o,b,B,F⟩:=AF.E7;obtain⟨S⟩:=B;refine aj rv.inv ?_;rintro p rfl e;refine cY ((R.obj m p _ e hm).inv) ?_;rintro _ _ _ rfl at' rs hpl;refine bG at'.seq ?_;intro ox od nn Ia hd;refine PD (AF.base.keeps _ Am.keeps) Ia F.hin F.v8 (n:=i+x.length) (by lia) (by lia) ?_
  refine wpAny_mono (QU AF.base AF.text (xD AF k) F.at' F.code F.gen F.body F.self F.glob F.binds S.co S.free S.cell S.h0 S.xa S.xb S.kind S.glob Rm.low (fun Z=>Rm.in1_deeper) Am R bg rv hm ht hc1 hc2) (fun w s' hw=>?_) fun Z Z e=>e;obtain⟨ah,S,dc,R',rw'⟩:=hw;refine aA rw'.inv ?_;rintro tt rfl;exact⟨tt,rfl,fun t' k'=>⟨ah,S,dc.grown (aM.refl _),R',.int _ _⟩⟩
 text:=fun {σ u i x} h=>fun {A E ρ s v} Rm Am R bg rv=>by
  refine CI (Bo h) ?_;rintro m l rfl hm hn ht hc1 hc2 hc3;obtain⟨f,c,Tb,fd,o,b,B,F⟩:=AF.strm;obtain⟨hl1,hl2,S⟩:=B;refine aj rv.inv ?_;rintro p rfl e;refine cY ((R.obj m p _ e hm).inv) ?_;rintro _ _ _ rfl at' rs hpl;refine bG at'.seq ?_;intro ox od nn Ia hd;refine PG (AF.base.keeps _ Am.keeps) Ia F.hin F.v8 (by have:=Rm.units;lia) ?_
  refine wpAny_mono (Vn AF.base AF.text AF.str (xD AF k) F.at' F.code F.gen hl1 hl2 F.body F.self F.glob F.binds S.co S.free S.cell S.h0 S.xa S.xb S.kind S.glob Rm.low (fun Z=>Rm.Pn) Am R bg rv hm ht hc1 hn) (fun w s' hw=>?_) fun Z Z e=>e;obtain⟨ah,S,dc,R',rw'⟩:=hw;refine aA rw'.inv ?_;rintro tt rfl;exact⟨_,tt,rfl,⟨ah,S,dc,R',.str _ _⟩⟩
end
section
variable{X:Ctx}
section
variable{prog:Program}{w:World}{A:Around}{E:Value→Shared→Prop}{s:Shared}
theorem Sa{it l:Addr}{i:Nat}{items:Array Value}{Q:Value→Shared→Prop}(hh:A.handled=none)(hit:s.heap.IsListIter it l i)(hl:SeqIn s.heap l items)(hx:items[i]?=none)
 (hE:∀h' e ob vs,(∀b o,b≠it→s.heap.get? b=some o→h'.get? b=some o)→s.heap.objs.size≤e→s.heap.objs.size≤h'.objs.size→h'.get? e=some ob→ob.cls=.type "StopIteration"→ob.data=.fields vs→vs[1]?=some .none→E (.ref e) { s with heap:=h' }) :
 wpAny (model prog w) A (call (.builtin "next") [.ref it] []) Q E s:=by
 refine bQ (id hit) ?_;intro o ho hc hd;refine bK hl ?_;clear hl;intro ol nl lM hdl;refine Calls.call_function_entry (by decide+kernel) (by decide+kernel) kdk_entry_next (kdk_args_next _) ?_
 unfold Builtin.«next»
 refine wpAny_bind (m:=someArgs "next" 1 2 _) (wpAny_of_eq (a:=[Value.ref it]) (by first|rfl|kernel_rfl!) ?_)
 dsimp only;refine wpAny_bind (wpAny_specialOf (name:=ofString "__next__") hit.typeIs slot_listiter_next.lookup ?_);refine wpAny_ite_split (fun hab=>absurd hab (by decide)) (fun Z=>?_)
 refine wpAny_bind (m:=callSpecial? (.ref it) (ofString "__next__")) (wpAny_callSpecial?_slot (name:=ofString "__next__") hit.typeIs slot_listiter_next
  (wpAny_call_entry slot_listiter_next hit.typeIs entry_listiter_next ?_ (args_listiter_next _)))
 show wpAny _ _ (field (.ref it) 0>>=_) _ _ s;refine wpAny_bind (wpAny_field ho hd (x:=.ref l) rfl ?_);show wpAny _ _ (if (Value.ref l==Value.none)=true then _ else _) _ _ s
 rw [if_neg (show ¬((Value.ref l==Value.none)=true) from Bool.false_ne_true)];show wpAny _ _ (field (.ref it) 1>>=_) _ _ s;refine wpAny_bind (wpAny_field ho hd (x:=.int i 0) rfl ?_);show wpAny _ _ (seqItems? (.ref l)>>=_) _ _ s;refine wpAny_bind (wpAny_seqItems lM hdl ?_);simp only [toNat_natCast,hx];refine wpAny_bind (wpAny_rule (wpAny_bind (wpAny_setField ho hd (by simp) ?_)))
 show wpAny _ _ (newExc (.type "StopIteration") []>>=_) _ _ _;refine wpAny_bind ?_;simp only [newExc,newTuple];refine wpAny_bind (wpAny_newObj_type ?_ (by size_fits))
 refine wpAny_bind (m:=firstArgMember _ _) (wpAny_of_eq (a:=Value.none) (by first|rfl|(simp only [firstArgMember];rfl)) ?_)
 refine wpAny_newObj_type ?_ (by size_fits)
 simp only [raiseNew];refine wpAny_bind (wpAny_handled ?_);rw [show A.in1.in1.handled=none from hh];refine wpAny_bind (wpAny_pure (wpAny_throw ?_));have hsz:(s.heap.update it (mapFields fun x=>x.setIfInBounds 0 Value.none)).objs.size=s.heap.objs.size:=(SameBut.update s.heap it _).1;refine hE _ _ _ _ (fun b o' hb e=>get?_push_of_some _ (get?_push_of_some _ (((SameBut.update ..).2 b hb).trans e))) (by rw [size_push,hsz];exact le_succ _)
  (by rw [size_push,size_push,hsz];exact le_succ_of_le (le_succ _)) (get?_push_size _ rfl) rfl rfl ?_
 rw [Array.getElem?_append_left (by simp)]
 rfl
end
end
section
variable{X:Ctx}{C:Calls}{k n:Nat}
theorem yd{f:b9}{o:Obj}{fd:FuncData}(F:gJ X f o fd){us:List V}{key:Option V}{bs:List (Str×V)}{σ:aa}(hb:f.bind us key=some bs)(hok:fD f.scope bs=true)
 {A:Around} {RR:Result→Shared→Prop} {ρ:aB} {s:Shared} {vs:List Value} {kw:List (Str×Value)} (dZ:A.depth<1000) (Am:aq X s) (R:Rel X ρ σ s.heap) (bg:∀a∈ρ.priv,bX s.heap a) (rs:aC X ρ s.heap vs us) (rk:j6 X ρ s.heap kw key)
 (H:∀(env:Env) (h₁:Heap) (tk:Nat),env=newEnv f.scope s.heap.objs.size mainGlobals (cellsFrom (s.heap.objs.size+1) f.scope.names []) (f.name++".<locals>.") (some f.addr) f.code none builtinsNs→aM s.heap h₁→s.heap.objs.size<h₁.objs.size→
  bB X s.heap ρ env (aJ f bs) ⟨ρ.ah,[s.heap.objs.size]++ρ.priv⟩ σ ({ s with heap:=h₁,toks:=tk }:Shared)→codeAny (model P X.w) A (.func f.body env) RR ({ s with heap:=h₁,toks:=tk }:Shared)) :
 codeAny (model P X.w) A (.call (.ref f.addr) ⟨vs,kw⟩) RR s:=by
 simp only [fD,and_eq_true,all_eq_true,or_eq_true,decide_eq_true_eq] at hok;refine au hok ?_;clear hok;intro hh;refine au hh ?_;clear hh;intro hh;refine au hh ?_;clear hh;intro hh;refine au hh ?_;clear hh;intro hh;refine au hh ?_;clear hh;intro hh;refine au hh ?_;clear hh;intro hk hco;intro hgen;intro yK;intro hplain;intro hnf;intro hnd;have hk:f.scope.kind=.function:=by simpa using hk
 refine bQ (F.bind hb Am rs rk) ?_;intro binds yr hnames jg;refine (codeAny_call_function (o:=o) (fd:=fd) (body:=f.body) dZ (Am.keep _ _ F.at' F.nt) F.data (by rw [F.scope];simpa using hco) (by rw [F.scope];simpa using hgen) F.body ?_ ?_)
 ·refine iH F.GG ?_;intro c co ws t q1 q2 q3 q4 q5;exact⟨c,co,ws,t,by rw [F.code,q1],Am.keep _ _ q2 q3,q4,by rw [F.name];exact q5⟩
 ·refine yr _ _ _ _ ?_;rw [F.closure,F.scope,F.globals,F.name,F.code,F.builtins];have hnd':(binds.map (·.1)).Nodup:=by rw [hnames];exact hnd
  have yL:∀x∈binds,f.scope.names.lookup x.1=some .local∨(f.scope.names.lookup x.1=some .cell∧((cellsFrom (s.heap.objs.size+1) f.scope.names []).lookup x.1).isSome=true):=by
   intro x hx;have:x.1∈bs.map (·.1):=by rw [←hnames];exact mem_map.mpr ⟨x,hx,rfl⟩
   refine aj (mem_map.mp this) ?_;intro b hb e;rcases yK b hb with h|h
   ·rw [e] at h;exact .inl (by simpa using h)
   ·rw [e] at h;have h':f.scope.names.lookup x.1=some .cell:=by simpa using h
    exact .inr ⟨h',cellsFrom_some _ _ _ (.inl h')⟩
  refine wpAny_newFunctionEnv_cells hk yL fun env he s₁ hin=>?_;have keep:=hin.toInCall.keep;refine fq hin.toInCall.same ?_;rintro h₁ tk rfl;have bx:env.locals=s.heap.objs.size:=by rw [he];rfl
  have yw:env.cells=cellsFrom (s.heap.objs.size+1) f.scope.names []:=by rw [he];rfl
  have kr:env.scope=f.scope:=by rw [he];rfl
  have jL:s.heap.objs.size<h₁.objs.size:=by
   refine bG hin.toInCall.ns ?_;intro oo es ep eo _;rw [bx] at eo;exact lt_size eo
  have G:aM s.heap h₁:=⟨keep,le_of_lt jL⟩;have aQ:aq X ({ s with heap:=h₁,toks:=tk }:Shared):=Am.grown G
  refine⟨aQ.lim,?_⟩;have hq:∀a∈[s.heap.objs.size],s.heap.objs.size≤a∧a<h₁.objs.size:=by
   intro a ha;simp only [mem_singleton] at ha;subst ha;exact⟨le_refl _,jL⟩
  have gM:∀{cl:Bool},bS cl ρ ⟨ρ.ah,[s.heap.objs.size]++ρ.priv⟩ s.heap h₁:=pg G fun a ha=>(hq a ha).1;have I:bB X s.heap ρ env (aJ f bs) ⟨ρ.ah,[s.heap.objs.size]++ρ.priv⟩ σ ({ s with heap:=h₁,toks:=tk }:Shared):=by
   refine⟨aQ,R.enter G hq Am.size,?_,G.step _,Am.size,by rw [bx];exact le_refl _,fun x c hx hc=>?_⟩
   ·refine { kind:=by rw [kr];exact hk,globals:=by rw [he];rfl,builtins:=by rw [he];rfl,code:=fun Z=>by rw [he];rfl,qual:=by rw [he];rfl,names:=fun x kd hx=>?_,loc:=⟨_,hin.toInCall.ns,fun x u hx hu=>?_⟩,cell:=fun x kd hx hkd=>?_,priv:=by rw [bx];simp,pl:=fun⟨x,hx⟩ y u Z hu=>?_,inj:=fun x y c hx hy=>?_,pv:=fun a ha=>?_ }
    ·left;show env.scope.names.lookup x=some kd;rw [kr];exact hx
    ·have hx':env.kindOf x=some .local :=by show env.scope.names.lookup x=_;rw [kr];exact hx
     refine aj (qN hnames jg hu) ?_;intro v q1 q2;exact⟨v,by rw [B0 hnd' hx',q1];rfl,q2.mono (gM (cl:=true)) (.inl rfl)⟩
    ·have hx':f.scope.names.lookup x=some kd:=hx;have hsome:=cellsFrom_some (x:=x) f.scope.names (s.heap.objs.size+1) [];rcases hkd with rfl|rfl
     ·refine aA (isSome_iff_exists.mp (hsome (.inl hx'))) ?_;intro c hc;rw [←yw] at hc;have hab:=hin.above x c (mem_of_lookup hc);rw [bx] at hab;have hxk:env.kindOf x=some .cell:=by show env.scope.names.lookup x=_;rw [kr];exact hx
      refine⟨c,_,hc,fun hm=>?_,hin.cell x c hc,fun u hu=>?_⟩
      ·rcases aI.mp hm with z|z
       ·exact absurd (R.lt c (aI.mpr (.inl z))) (not_lt.mpr (le_of_lt hab))
       ·rcases mem_append.mp z with z|z
        ·simp only [mem_singleton] at z;rw [z] at hab;exact absurd hab (lt_irrefl _)
        ·exact absurd (R.lt c (aI.mpr (.inr z))) (not_lt.mpr (le_of_lt hab))
      ·refine aj (qN hnames jg hu) ?_;intro v q1 q2;exact⟨v,by rw [BZ hnd' hxk,q1];rfl,q2.mono (gM (cl:=true)) (.inl rfl)⟩
     ·have:=hnf _ (mem_of_lookup hx');simp at this
    ·rcases hplain with h|h
     ·have:=h _ (mem_of_lookup hx);simp at this
     ·exact h _ (mem_of_lookup hu)
    ·exact name_of_addr hin.apart (mem_of_lookup hx) (mem_of_lookup hy)
    ·rcases mem_append.mp ha with h3|h3
     ·simp only [mem_singleton] at h3;subst h3;refine dw hin.toInCall.ns ?_;intro o' es ep e' d' _;rw [bx] at e';exact⟨o',e',.inl ⟨_,_,d'⟩⟩
     ·exact (bg a h3).keep fun o e=>G.keep a o e
   ·have:=hin.above x c (mem_of_lookup hc);rw [bx] at this;exact le_of_lt this
  exact H env h₁ tk he G jL I
end
section
variable{h:Heap}{l:List Addr}{b:Addr}
variable{X:Ctx}{C:Calls}{k n:Nat}
noncomputable def less(h:Heap)(l:List Addr):Heap:=⟨h.objs.mapIdx fun i o=>if i∈l then { o with data:=.freed } else o,h.life⟩
theorem less_get(h:Heap)(l:List Addr)(b:Addr):(less h l).get? b=if b∈l then none else h.get? b:=by
 unfold Heap.get? less;simp only [Array.getElem?_mapIdx];cases hx:h.objs[b]? with
 | none=>simp
 | some o=>
  simp only [map_some]
  by_cases hb:b∈l
  ·simp [hb]
  ·simp [hb]
theorem QV{o:Obj}(e:(less h l).get? b=some o):b∉l∧h.get? b=some o:=by
 rw [less_get] at e
 split at e
 ·cases e
 ·rename_i hb;exact⟨hb,e⟩
theorem less_none(hb:b∈l):(less h l).get? b=none:=by rw [less_get,if_pos hb]
theorem zC(hb:h.objs.size≤b):(less h l).get? b=none:=by
 rw [less_get]
 split
 ·rfl
 ·exact Heap.get?_none_of_le hb
section
variable{M:Model}{A:Around}{E:Value→Shared→Prop}{s:Shared}
theorem Sj{base:Heap}{env:Env}{outer:List Env}{L e:Addr}{cls:Value}{Q:Unit→Shared→Prop}
 (hfr:A.frames=some (env::outer)) (hl:s.heap.FunFrames base (env::outer)) (hf:env.frame=some L) (ht:s.heap.Traced base e cls) (hkb:base.StaysIn s.heap) (hen:base.get? e=none)
 (h:∀h',Heap.Left base (env::outer) e cls s.heap h'→Q () { s with heap:=h' }):wpAny M A (noteFrame (.ref e) env) (fun Z s₂=>wpAny M A (setFlight (.ref e) none) Q E s₂) E s:=by
 refine CN ht ?_;intro oe vs T oT ts he hcls hd h1 Ou yp hT yy h3;subst hcls;unfold noteFrame;simp only [hf];refine wpAny_bind (wpAny_field he hd h1 ?_);rw [if_pos (show (Value.ref T != Value.none)=true from by simp)]
 refine wpAny_bind (wpAny_field hT yy h3 ?_);rw [if_neg (show ¬((Value.none==rawInt L)=true) from by simp [rawInt])]
 refine wpAny_bind (wpAny_setField hT yy (Array.getElem?_eq_some_iff.mp h3).1 ?_);have other:∀b,b≠T→(s.heap.update T (mapFields (·.setIfInBounds 3 Value.none))).get? b=s.heap.get? b:=fun b hb=>Heap.get?_update_other _ _ (Ne.symm hb)
 have FY:∀b o,s.heap.get? b=some o→(∀vs,o.data≠.fields vs)→b≠T:=fun b o hb hnf q=>by
  rw [q,hT] at hb;injection hb with hb;subst hb;exact hnf ts yy
 refine wpAny_newEntry hfr (hl.of_keeps fun b o hb hnf=>⟨o,(other b (FY b o hb hnf)).trans hb,rfl⟩) hf ((other e (Ne.symm yp)).trans he)
  (fun b o hbo=>(other b fun q=>by rw [q,Ou] at hbo;cases hbo).trans (hkb b o hbo)) hen hd (Array.getElem?_eq_some_iff.mp h1).1
  fun h' ⟨x1,x2,x3,x4⟩=>h h' ⟨x1,x2,x3,fun b o hb hnf=>x4 b o ((other b (FY b o hb hnf)).trans hb) hnf⟩
end
noncomputable def mL(h h':Heap)(L:Addr):Prop:=∃o sl,h.get? L=some o∧(∀vs,o.data≠.fields vs)∧h'.get? L=some { o with slots:=sl }
theorem Wl{fV:b9}{oV:Obj}{fdV:FuncData}(FV:gJ X fV oV fdV){m:Nat}{xC:List (Str×V)}(nh:fV.bind [.loc m] none=some xC)(nu:fD fV.scope xC=true){p1 p2 p3 p4 p5:Pos}{rest:List Stmt}
 (hbody:fV.body=.Assign [.Name "b" p1] (.Call (.Name "next" p2) [.Name "iterator" p3] [] p4) p5::rest) (za:(aJ fV xC).vars "iterator"=some (.loc m)) (hit:fV.scope.names.lookup ("iterator":Str)=some .local) (yQ:fV.scope.names.lookup ("next":Str)=some .globalImplicit)
 (hnext:∀h,Keeps X h→∀env:Env,env.globals=mainGlobals→env.builtins=builtinsNs→Looks (model P X.w) h (loadGlobal env "next") (.builtin "next")) (nq:fV.scope.kind=.function)
 {A:Around} {E:Value→Shared→Prop} {Q:Value→Shared→Prop} {ρ:aB} {σ:aa} {s:Shared} {v:Value} {fr:List Env} {LS:List Addr} (dZ:A.depth<900) (rD:A.handled=none) (hfr:A.frames=some fr) (Am:aq X s) (R:Rel X ρ σ s.heap) (bg:∀a∈ρ.priv,bX s.heap a)
 (rv:VR X ρ s.heap v (.loc m)) (hm:σ[m]?=some (.iter []))
 (Nx:fr.filterMap (·.frame)=LS) (uA:∀base:Heap,(∀L∈LS,base.get? L=none)→s.heap.FunFrames base fr)
 (hE:∀it e h',v=.ref it→s.heap.objs.size≤e→(less s.heap (it::LS)).StaysIn h'→h'.FunFrames (less s.heap (it::LS)) fr→h'.Traced (less s.heap (it::LS)) e (.type "StopIteration")→(∀L∈LS,mL s.heap h' L)→s.heap.objs.size≤h'.objs.size→
  ∀tk,E (.ref e) { s with heap:=h',toks:=tk }) :
 wpAny (model P X.w) A (call (.ref fV.addr) [v] []) Q E s:=by
 have UN:=rv;refine aj rv.inv ?_;rintro p rfl e;refine aj (R.get e) ?_;intro mo hmo om;obtain rfl:mo=.iter []:=Option.some.inj (hmo.symm.trans hm);refine cps fun Z kk=>?_;obtain⟨it,l,i,vs,rfl,hiter,pl,hnf,rs,hpl⟩:=om.inv;refine kk ?_;clear kk;have hend:vs[i]?=none:=by
  have h1:=congrArg length rs.nil_inv;simp only [length_drop,List.length_nil,length_toList] at h1;exact Array.getElem?_eq_none (Nat.sub_eq_zero_iff_le.mp h1)
 refine wpAny_call (yd FV nh nu (by lia) Am R bg (.cons UN .nil) (.inl ⟨rfl,rfl⟩) fun env h₁ tk bx G jL I=>?_)
 have kk:env.scope.kind=.function:=by rw [bx];exact nq
 rw [hbody];refine codeAny_func (wpAny_execs_cons (wpAny_Assign_Name (FT (g:=.builtin "next") (by intro _ _ z;cases z) (by intro b z;cases z) (by decide+kernel) ?_) rfl))
 refine ks_loadName_global kk (by rw [bx];exact yQ) ((hnext _ I.aG.keeps env I.en.globals I.en.builtins).here ⟨rfl,?_⟩)
 refine aj I.en.loc ?_;intro mm hns rM;refine aj (rM "iterator" (.loc m) hit za) ?_;intro w' hw1 kC;refine wpAny_Name (wpAny_loadName_local kk (by rw [bx];exact hit) hns hw1 ?_) (by decide+kernel)
 have OV:w'=.ref it:=by
  refine aj kC.inv ?_;intro p' fz e';rw [fz,Option.some.inj (e'.symm.trans e)]
 subst OV;have Oi:h₁.IsListIter it l i:=by
  refine aj hiter ?_;clear hiter;intro o eo r;exact⟨o,G.keep _ _ eo,r⟩
 have hseq:SeqIn h₁ l vs:=by
  refine aA pl ?_;clear pl;intro nn ep;exact⟨_,nn,G.keep _ _ ep,rfl⟩
 refine Sa (s:={ s with heap:=h₁,toks:=tk }) rD Oi hseq hend fun h₂ ee ob vs' hk he hsz hob hcls hdat h1=>?_
 have NC:s.heap.objs.size≠it:=by
  refine aj hiter ?_;clear hiter;intro o eo _;exact ne_of_gt (lt_size eo)
 have Oa:(A.deeper env).frames=some (env::fr):=Around.frames_deeper hfr;have nj:env.frame=some s.heap.objs.size:=by rw [bx];rfl
 have zu:∀b o,b≠it→s.heap.get? b=some o→h₂.get? b=some o:=fun b o hb eb=>hk b o hb (G.keep _ _ eb);have yi:h₂.FunFrames (less s.heap (it::LS)) fr:=(uA (less s.heap (it::LS)) fun L hL=>less_none (mem_cons_of_mem _ hL)).of_keeps fun b o eb hnd=>by
  refine⟨o,zu b o ?_ eb,rfl⟩;rintro rfl;refine bQ hiter ?_;clear hiter;intro oi ei _ di;obtain rfl:=Option.some.inj (eb.symm.trans ei);exact hnd _ di
 have Nn:h₂.FunFrames (less s.heap (it::LS)) (env::fr):=by
  refine⟨by rw [kk];decide,⟨s.heap.objs.size,?_⟩,yi⟩
  refine dw hns ?_;clear hns;intro oo es ep eo dd _;have:env.locals=s.heap.objs.size:=by rw [bx];rfl
  rw [this] at eo;exact⟨oo,nj,zC (le_refl _),hk _ _ NC eo,fun vs z=>by rw [dd] at z;cases z⟩
 have stays:(less s.heap (it::LS)).StaysIn h₂:=fun b o eb=>by
  refine au (QV eb) ?_;intro hb e2;exact zu b o (fun z=>hb (z▸mem_cons_self)) e2
 have hge:s.heap.objs.size≤ee:=le_trans G.size he;refine wpAny_leaving_first (s:={ s with heap:=h₂,toks:=tk }) Oa Nn nj hob stays (zC hge) hdat h1 fun h₃ HL=>?_
 refine gQ HL ?_;clear HL;intro x1 hh;refine bO hh ?_;clear hh;intro _ _ x2;intro x3 x4;rw [hcls] at x3;refine hE it ee h₃ rfl hge x1 x2 x3 (fun L hL=>?_) ?_ tk
 ·have iJ:L∈fr.filterMap (·.frame):=by rw [Nx];exact hL
  obtain⟨_,o,eo,hnd⟩:=(uA (less s.heap (it::LS)) fun L hL=>less_none (mem_cons_of_mem _ hL)).mem iJ;have hne:L≠it:=by
   rintro rfl;refine bQ hiter ?_;clear hiter;intro oi ei _ di;obtain rfl:=Option.some.inj (eo.symm.trans ei);exact hnd _ di
  refine aA (x4 L o (zu L o hne eo) hnd) ?_;intro sl e3;exact⟨o,sl,eo,hnd,e3⟩
 ·refine CJ x3 ?_;clear x3;intro oe vs2 T oT ts N1 _;exact le_of_lt (lt_of_le_of_lt hge (lt_size N1))
end
section
variable{X:Ctx}{C:Calls}{k n:Nat}
theorem Iv{s s':Shared}{W:List Addr}(Fi:bI X)(Am:aq X s)(hW:∀b∈W,nB≤b∧∃o,s.heap.get? b=some o∧(∀ps,o≠tabObj ps)∧¬kF o)
 (mv:∀b o,b∉W→s.heap.get? b=some o→s'.heap.get? b=some o) (hos:s'.os=s.os) (hg:s'.gens=s.gens) (hsz:s.heap.objs.size≤s'.heap.objs.size):aq X s' where
 keep:=fun a o e t=>mv a o (fun z=>absurd (lt_of_lt_of_le (lt_size e) Fi.size) (not_lt.mpr (hW a z).1)) (Am.keep a o e t)
 tab:=fun T q m=>by
  refine bQ ((Am.tab T q m).ok) ?_;intro ps a b c;have k1:s'.heap.get? T=some (tabObj ps):=mv _ _ (fun z=>by
   obtain⟨_,o,e,h1,_⟩:=hW T z;exact h1 ps (Option.some.inj (e.symm.trans a))) a
  refine⟨ps,k1,b,fun pos cv e=>?_⟩;refine iH (c pos cv e) ?_;intro cc co ws t e1 e2 e4 e5 e6;refine⟨cc,co,ws,t,e1,mv _ _ (fun z=>?_) e2,e4,e5,e6⟩;obtain⟨_,o,e',_,h2⟩:=hW cc z;obtain rfl:=Option.some.inj (e'.symm.trans e2);exact h2 ⟨_,_,_,e4,e5⟩
 os:=hos.trans Am.os
 gens:=hg▸Am.gens
 size:=le_trans Am.size hsz
 lim:=by
  refine aj Am.lim ?_;intro mc hh;refine bG hh ?_;clear hh;intro o es ep e r;intro h;exact⟨mc,⟨o,es,ep,mv _ _ (fun z=>jt (hW _ z).1 rfl) e,r⟩,h⟩
section
variable{A:Around}{E:Value→Shared→Prop}{s:Shared}{env:Env}
theorem FU{f:Str}{fp pos:Pos}{a:Expr}{g:Value}{Q:Value→Shared→Prop}(ha:∀x p,a≠.Starred x p)(hd:(f==("__debug__":Str))=false)
 (h:wpAny (model P X.w) A (loadName env f) (fun v s₁=>v=g∧wpAny (model P X.w) A (eval a env) (fun v s₂=>(∃kp,(kp=Keeper.frame∨kp=Keeper.machine∨kp=Keeper.boundFrame)∧Looks (model P X.w) s₂.heap (keeperOf g) kp)∧
  wpAny (model P X.w) A (call g [v] []) Q E s₂) E s₁) E s) :
 wpAny (model P X.w) A (eval (.Call (.Name f fp) [a] [] pos) env) Q E s:=by
 rw [oY (by intro o nm p z;cases z)]
 refine wpAny_bind (wpAny_Name (wm h (fun v s₁ hv=>?_)) hd);refine au hv ?_;clear hv;rintro rfl hv;rw [iT ha,iB];refine mV rfl (evalArgs_plain (spliced_cons ?_));exact wm hv (fun w s₂ hw=>spliced_nil hw)
end
structure wR(X:Ctx)(ρ:aB)(L:Addr)(s:Shared)(u:V)(w:Value)(s':Shared):Prop where
 aG:aq X s'
 keep:∀b o,s.heap.get? b=some o→¬X.tab b→b≠L→s'.heap.get? b=some o
 frame:mL s.heap s'.heap L
 size:s.heap.objs.size≤s'.heap.objs.size
 val:VR X ⟨[],ρ.priv⟩ s'.heap w u
structure wU(X:Ctx)(T:Tables):Prop where
 Wi:T.glob.lookup ("_parse_varint":Str)=some (.base 147)
 next:∀h,Keeps X h→∀env:Env,env.globals=mainGlobals→env.builtins=builtinsNs→Looks (model P X.w) h (loadGlobal env "next") (.builtin "next")
 HM:∀h,Keeps X h→∀env:Env,env.globals=mainGlobals→env.builtins=builtinsNs→Looks (model P X.w) h (loadGlobal env "_parse_varint") (.ref 147)
 stop:∀h,Keeps X h→∀env:Env,env.globals=mainGlobals→env.builtins=builtinsNs→Looks (model P X.w) h (loadGlobal env "StopIteration") (.type "StopIteration")
theorem Vh:isSubtype (.type "StopIteration") (.type "BaseException")=pure true:=by rw [isSubtype_type];kernel_rfl
theorem Vi:isSubtype (.type ((Manifest.find? "StopIteration").elim "type" fun x=>x.metatype)) (.type "tuple")=pure false:=by
 have:(Manifest.find? "StopIteration").elim "type" (fun x=>x.metatype)="type":=by decide+kernel
 rw [this,isSubtype_type];kernel_rfl
theorem Vj:isSubtype (.type "StopIteration") (.type "StopIteration")=pure true:=by rw [isSubtype_type];kernel_rfl
theorem Gs(Fi:bI X)(CO:bL X C k):∀{pre:List Stmt} {n:Nat} {me bu:ao} {σ σ₁:aa},aU C n me pre σ=some (.next,bu,σ₁)→∀{A:Around} {E:Value→Shared→Prop} {h₀:Heap} {ρ₀ ρ:aB} {s:Shared} {env:Env} {Q:Flow→Shared→Prop} {rest:List Stmt},
 aT k A→bB X h₀ ρ₀ env me ρ σ s→(∀s' aO,bB X h₀ ρ₀ env bu ⟨aO,ρ.priv⟩ σ₁ s'→FK X (Own env me) ρ.ah aO s.heap s'.heap→bu.names=me.names→wpAny (model P X.w) A (execs rest env) Q E s')→wpAny (model P X.w) A (execs (pre++rest) env) Q E s:=by
 intro pre
 induction pre with
 | nil=>
  intro n me bu σ σ₁ h A E h₀ ρ₀ ρ s env Q rest Rm I hQ;cases n with
  | zero=>exact nn h
  | succ n=>refine bO (jz h) ?_;rintro _ rfl rfl;exact hQ s ρ.ah I (FK.refl _ _) rfl
 | cons st pre rc=>
  intro n me bu σ σ₁ h A E h₀ ρ₀ ρ s env Q rest Rm I hQ;cases n with
  | zero=>exact nn h
  | succ n=>
   refine fL h ?_;clear h;intro fl fY σ₂ e1 h;cases fl with
   | next=>refine wpAny_execs_cons (wm ((ud Fi CO n).1 e1 Rm I) (fun f s₁ hf=>?_));obtain⟨cu,rf,I₁,F₁,n₁⟩:=hf;obtain rfl:=rf.inv;refine rc h Rm I₁ fun s' aO I' F' n'=>hQ s' aO I' (F₁.trans ?_) (n'.trans n₁);rw [←qI n₁];exact F'
   | brk=>exact absurd (jz h).1 nofun
   | ret v=>exact absurd (jz h).1 nofun
set_option maxHeartbeats 2000000 in
theorem Uz{T:Tables}(RT:wU X T)(Fi:bI X)(CO:bL X C k){fR:b9}{oR:Obj}{xZ:FuncData}(FR:gJ X fR oR xZ){fV:b9}{oV:Obj}{fdV:FuncData}(FV:gJ X fV oV fdV)(hV:fV.addr=147)
 {p1 p2 p3 p4 p5:Pos} {vL:List Stmt} (yu:fV.body=.Assign [.Name "b" p1] (.Call (.Name "next" p2) [.Name "iterator" p3] [] p4) p5::vL)
 (nh:∀m,fV.bind [.loc m] none=some [(("iterator":Str),.loc m)]) (nu:∀m,fD fV.scope [(("iterator":Str),V.loc m)]=true) (yG:fV.scope.names.lookup ("iterator":Str)=some .local) (yR:fV.scope.names.lookup ("next":Str)=some .globalImplicit) (nq:fV.scope.kind=.function)
 {q1 q2 q3 q4 q5 q6 q7 q8 q9 ql qm qo:Pos} {pre:List Stmt} {last:Stmt} (hl:(q2.endLine==q6.line)=true)
 (yt:fR.body=pre++[.Try [.Expr (.Call (.Attribute (.Name "told" q1) "append" q2) [.Call (.Name "_parse_varint" q3) [.Name "hand" q4] [] q5] [] q6) q7] [.ExceptHandler (some (.Name "StopIteration" q8)) none [.Return (some (.Name "told" q9)) ql] qm] [] [] qo,last])
 {us:List V} {bs:List (Str×V)} (rB:fR.bind us none=some bs) (rH:fD fR.scope bs=true) (rL:fR.scope.names.lookup ("told":Str)=some .local) (rF:fR.scope.kind=.function) (yV:fR.scope.names.lookup ("_parse_varint":Str)=some .globalImplicit) (yZ:fR.scope.names.lookup ("StopIteration":Str)=some .globalImplicit)
 {fuel:Nat} {bu:ao} {σ₁:aa} {m:Nat} {ls:List V} (hrun:aU C fuel (aJ fR bs) pre []=some (.next,bu,σ₁)) (rK:bu.vars "told"=some (.lst ls)) (hplain:(V.lst ls).plain=true) (y9:(V.lst ls).under 0=true) (rD:cy C bu "hand"=some (.loc m)) (hiter:σ₁[m]?=some (.iter []))
 {A:Around} {E:Value→Shared→Prop} {ρ:aB} {s:Shared} {vs:List Value} {pn:Env} {L:Addr} (Rm:aT (k+1) A) (hA:A.frames=some [pn]) (nj:pn.frame=some L) (ND:pn.scope.kind≠.module) (lJ:L∈ρ.priv) (hρ:ρ.ah=[]) (Am:aq X s) (R:Rel X ρ [] s.heap) (bg:∀a∈ρ.priv,bX s.heap a) (rs:aC X ρ s.heap vs us) :
 wpAny (model P X.w) A (call (.ref fR.addr) vs []) (wR X ρ L s (.lst ls)) E s:=by
 refine wpAny_call (yd FR rB rH Rm.low Am R bg rs (.inl ⟨rfl,rfl⟩) fun env h₁ tk bx G jL I=>?_);have kk:env.scope.kind=.function:=by rw [bx];exact rF
 have kn:∀x,env.kindOf x=fR.scope.names.lookup x:=fun x=>by rw [bx];rfl
 have DP:env.locals=s.heap.objs.size:=by rw [bx];rfl
 have yF:env.frame=some s.heap.objs.size:=by rw [bx];rfl
 rw [yt];refine codeAny_func (Gs Fi CO hrun Rm.deeper I fun s₁ cu I₁ F₁ hn₁=>?_);have D7:(A.deeper env).frames=some [env,pn]:=Around.frames_deeper hA;have NF:L<s.heap.objs.size:=R.lt L (aI.mpr (.inr lJ));have WT:L≠s.heap.objs.size:=ne_of_lt NF;have pR:=I₁.en.pv s.heap.objs.size (by simp)
 have pL:=I₁.en.pv L (mem_append_right _ lJ);have zO:∀{h:Heap} {a:Addr},bX h a→∃o,h.get? a=some o∧∀vs,o.data≠.fields vs:=by
  intro h a hh;refine aj hh ?_;clear hh;intro o e d;refine⟨o,e,fun vs z=>?_⟩;rcases d with⟨es,ep,d⟩|⟨xs,nn,d⟩<;>(rw [d] at z;cases z)
 refine aj (zO pR) ?_;intro F5 eR dR;refine aj (zO pL) ?_;intro oL' eL dL;have uA:∀base:Heap,(∀L'∈[s.heap.objs.size,L],base.get? L'=none)→s₁.heap.FunFrames base [env,pn]:=fun base hb=>
  ⟨by rw [kk];decide,⟨_,F5,yF,hb _ (by simp),eR,dR⟩,ND,⟨_,oL',nj,hb _ (by simp),eL,dL⟩,trivial⟩
 refine aj I₁.en.loc ?_;intro mm hns rM;have hkt:bu.names.lookup ("told":Str)=some .local :=by rw [hn₁];exact rL
 refine aj (rM "told" (.lst ls) hkt rK) ?_;intro w hw1 kC;have OU:=kC;refine bV kC.inv ?_;rintro ta tvs rfl pl hnf rl;refine wpAny_execs_cons (wpAny_Try_except (wpAny_execs_cons (wpAny_Expr ?_ (by simp [interactive,kk]) rfl)))
 refine zI (g:=.builtin "list.append") (ov:=.ref ta) (by intro _ _ z;cases z) (by intro b z;cases z) (by decide+kernel) hl ?_
 refine wpAny_loadName_local kk (by rw [kn];exact rL) hns hw1 ⟨rfl,fun kQ Q' ng=>zE (X:=X) (fv:=.bi "list.append") pl (by kernel_rfl) fun f hf=>?_,?_⟩
 ·obtain rfl:=(hf ⟨[],[]⟩).inv;exact ng
 refine FU (by intro _ _ z;cases z) (by decide+kernel) (ks_loadName_global kk (by rw [kn];exact yV) ((RT.HM _ I₁.aG.keeps env I₁.en.globals I₁.en.builtins).here ⟨rfl,?_⟩))
 refine (gW CO rD I₁.aG I₁.en fun v hv=>⟨⟨.frame,.inl rfl,?_⟩,?_⟩).2
 ·rw [←hV];exact r8 (I₁.aG.keep _ _ FV.at' FV.nt) FV.data
 rw [←hV];refine Wl FV (nh m) (nu m) yu (by simp [aJ,ao.vars]) yG yR RT.next nq (fr:=[env,pn]) (LS:=[s.heap.objs.size,L]) (by have:=Rm.depth;show A.depth+1<900;lia) Rm.handled D7 I₁.aG I₁.rel I₁.en.pv hv hiter (by simp [yF,nj]) uA ?_
 intro it e h₂ za hge stays yi htr OI hsz2 AH;have pH:it∈lp cu:=by
  rw [za] at hv;refine aj hv.inv ?_;intro _ hw e';injection hw with hw
  exact dj.mpr ⟨_,mem_of_getElem? e',.inl hw⟩
 refine aA (I₁.rel.own pH) ?_;intro oi CQ;have EN:oi.cls≠.none∧¬kF oi:=by
  refine aj (dj.mp pH) ?_;intro p' fz hpa;obtain⟨i',hi',rfl⟩:=getElem_of_mem fz;refine aj (I₁.rel.get (getElem?_eq_getElem hi')) ?_;intro m' _ zV;exact zV.kinds hpa CQ
 have yH:s.heap.objs.size≤it:=le_trans G.size (F₁.cI it pH (by
  show it∉lp ρ.ah;rw [hρ];simp [lp]))
 have W0:it≠s.heap.objs.size:=by
  rintro rfl;exact I₁.rel.cR _ pH (by simp)
 have WZ:it≠L:=by
  rintro rfl;exact I₁.rel.cR _ pH (mem_append_right _ lJ)
 have hen:(less s₁.heap [it,s.heap.objs.size,L]).get? e=none:=zC hge;refine Sj (s:={ s₁ with heap:=h₂,toks:=AH }) D7 yi yF htr stays hen fun h₃ HL=>?_
 refine gQ HL ?_;clear HL;intro y1 y2 y3 y4;refine CN y3 ?_;intro oe W9 Tb W4 W8 f1 f2 f3 f4 f5 f6 f7 f8 f9;refine wpAny_handleBy_builtin (X:="StopIteration") (T:="StopIteration") (b:=true) Vh Vi Vj ?_;have EW:∀b o,b≠it→b≠s.heap.objs.size→b≠L→s₁.heap.get? b=some o→h₃.get? b=some o:=fun b o n1 n2 n3 eb=>y1 b o (by
  rw [less_get,if_neg (by simp [n1,n2,n3])];exact eb)
 have QB:Keeps X h₃:=fun b o eb ht=>by
  refine EW b o (fun z=>?_) (fun z=>?_) (fun z=>?_) (I₁.aG.keep b o eb ht)
  ·subst z;exact absurd (lt_of_lt_of_le (lt_size eb) (le_trans Fi.size Am.size)) (not_lt.mpr yH)
  ·subst z;exact absurd (lt_of_lt_of_le (lt_size eb) (le_trans Fi.size Am.size)) (lt_irrefl _)
  ·subst z;exact absurd (R.ge _ (aI.mpr (.inr lJ))) (not_le.mpr (lt_of_lt_of_le (lt_size eb) Fi.size))
 refine wpAny_Name (ks_loadName_global kk (by rw [kn];exact yZ) ((RT.stop _ QB env I₁.en.globals I₁.en.builtins).here ⟨rfl,⟨oe,f1,f2⟩,?_⟩)) (by decide+kernel)
 rw [if_pos rfl];refine wpAny_setFlight_none f1 f3 f4 f7 f8 (Array.getElem?_eq_some_iff.mp f9).1 ?_;have other:∀b,b≠Tb→(h₃.update Tb (mapFields (·.setIfInBounds 3 Value.none))).get? b=h₃.get? b:=fun b hb=>Heap.get?_update_other _ _ (Ne.symm hb)
 have ON:(h₃.update Tb (mapFields (·.setIfInBounds 3 Value.none))).objs.size=h₃.objs.size:=(SameBut.update h₃ Tb _).1
 have Si:∀b o,h₃.get? b=some o→(∀vs,o.data≠.fields vs)→b≠Tb:=fun b o eb hnf z=>by
  subst z;obtain rfl:=Option.some.inj (eb.symm.trans f7);exact hnf _ f8
 have zx:∀b o,b≠it→b≠s.heap.objs.size→b≠L→s₁.heap.get? b=some o→(h₃.update Tb (mapFields (·.setIfInBounds 3 Value.none))).get? b=some o:=fun b o n1 n2 n3 eb=>by
  rw [other b (fun z=>?_)]
  ·exact EW b o n1 n2 n3 eb
  ·subst z;rw [less_get,if_neg (by simp [n1,n2,n3]),eb] at f5
   cases f5
 have G5:∀L'∈[s.heap.objs.size,L],mL s₁.heap (h₃.update Tb (mapFields (·.setIfInBounds 3 Value.none))) L':=fun L' hL'=>by
  refine bw (OI L' hL') ?_;intro o sl e1 d1 e2;refine aA (y4 L' { o with slots:=sl } e2 d1) ?_;intro U6 e3
  refine⟨o,U6,e1,d1,?_⟩;rw [other L' (Si L' _ e3 d1)];exact e3
 refine bw (G5 s.heap.objs.size (by simp)) ?_;intro W3 W7 g1 g2 g3
 have Ox:(h₃.update Tb (mapFields (·.setIfInBounds 3 Value.none))).Ns env.locals mm:=by
  refine dw hns ?_;clear hns;intro oo es ep eo dd rr;rw [DP] at eo ⊢;obtain rfl:=Option.some.inj (g1.symm.trans eo);exact⟨_,es,ep,g3,dd,rr⟩
 refine wpAny_execs_cons (wpAny_Return_some (wpAny_Name (wpAny_loadName_local kk (by rw [kn];exact rL) Ox hw1 ?_) (by decide+kernel)))
 have ku:s₁.heap.objs.size≤(h₃.update Tb (mapFields (·.setIfInBounds 3 Value.none))).objs.size:=by
  rw [ON];exact le_of_lt (lt_of_le_of_lt hge (lt_size f1))
 have oG:aq X ({ s₁ with heap:=h₃.update Tb (mapFields (·.setIfInBounds 3 Value.none)),toks:=AH }:Shared):=by
  refine Iv (W:=[it,s.heap.objs.size,L]) (s':={ s₁ with heap:=h₃.update Tb (mapFields (·.setIfInBounds 3 Value.none)),toks:=AH }) Fi I₁.aG (fun b hb=>?_) (fun b o hb eb=>zx b o (by simp at hb;exact hb.1) (by simp at hb;exact hb.2.1) (by simp at hb;exact hb.2.2) eb) rfl rfl ku
  simp only [mem_cons,not_mem_nil,or_false] at hb;rcases hb with rfl|rfl|rfl
  ·exact⟨le_trans Am.size yH,oi,CQ,fun ps z=>EN.1 (by rw [z]),EN.2⟩
  ·exact⟨Am.size,F5,eR,fun ps z=>dR ps (by rw [z]),by intro hh;refine bG hh ?_;clear hh;intro vs' q t hd _;exact dR vs' hd⟩
  ·exact⟨R.ge _ (aI.mpr (.inr lJ)),oL',eL,fun ps z=>dL ps (by rw [z]),by intro hh;refine bG hh ?_;clear hh;intro vs' q t hd _;exact dL vs' hd⟩
 have Sh:∀b,b<s.heap.objs.size→¬Own env (aJ fR bs) b:=by
  rintro b hb (rfl|⟨x,hx,hc⟩)
  ·rw [DP] at hb;exact lt_irrefl _ hb
  ·exact absurd (I.gw x b hx hc) (not_le.mpr hb)
 have down:∀b o,s.heap.get? b=some o→¬X.tab b→s₁.heap.get? b=some o:=fun b o eb ht=>F₁.keep b o (G.keep _ _ eb) ht (by show b∉lp ρ.ah;rw [hρ];simp [lp]) (Sh b (lt_size eb))
 refine⟨oG,fun b o eb ht hb=>zx b o (fun z=>?_) (ne_of_lt (lt_size eb)) hb (down b o eb ht),?_,?_,?_⟩
 ·subst z;exact absurd (lt_size eb) (not_lt.mpr yH)
 ·have DN:=G5 L (by simp)
  refine aj (zO (bg L lJ)) ?_;intro oo eo dd;have dG:¬X.tab L:=Am.lY eo (fun ps z=>dd ps (by rw [z])) (.inl (jt (R.ge _ (aI.mpr (.inr lJ)))))
  have:=down L oo eo dG;refine bw DN ?_;clear DN;intro o2 sl2 e2 d2 e3;obtain rfl:=Option.some.inj (this.symm.trans e2);exact⟨oo,sl2,eo,d2,e3⟩
 ·exact le_trans (le_trans G.size F₁.size) ku
 ·have M1:bS false ⟨cu,[s.heap.objs.size]++ρ.priv⟩ ⟨cu,[s.heap.objs.size]++ρ.priv⟩ s₁.heap (h₃.update Tb (mapFields (·.setIfInBounds 3 Value.none))):=
   ⟨fun b o eb hb Z=>zx b o (fun z=>hb (aI.mpr (.inl (z▸pH)))) (fun z=>hb (aI.mpr (.inr (by simp [z])))) (fun z=>hb (aI.mpr (.inr (mem_append_right _ (z▸lJ))))) eb,prefix_refl _,fun b q nn=>absurd q nn⟩
  have r1:=OU.mono M1 (.inr hplain);have r2:VR X ⟨[],[s.heap.objs.size]++ρ.priv⟩ (h₃.update Tb (mapFields (·.setIfInBounds 3 Value.none))) (.ref ta) (.lst ls):=r1.cut (ah:=[]) (List.nil_prefix) y9
  exact r2.mono (pT (cl:=true) (ah:=[]) _ fun b hb=>mem_append_right _ hb) (.inl rfl)
end
section
variable{h h' h₀:Heap}{L:Addr}{ρ₀ ρ:aB}{env:Env}{me:ao}{s:Shared}
variable{X:Ctx}{C:Calls}{k n:Nat}
theorem mL.ns{m:Str→Option Value}(x:mL h h' L)(H:h.Ns L m):h'.Ns L m:=by
 refine bw x ?_;clear x;intro o sl e d e';refine dw H ?_;clear H;intro o2 es ep e2 dd rr;obtain rfl:=Option.some.inj (e.symm.trans e2);exact⟨_,es,ep,e',dd,rr⟩
theorem mL.pv(x:mL h h' L)(H:bX h L):bX h' L:=by
 refine bw x ?_;clear x;intro o sl e d e';refine aj H ?_;clear H;intro o2 e2 dd;obtain rfl:=Option.some.inj (e.symm.trans e2);exact⟨_,e',dd⟩
theorem wR.inF{s':Shared}{u:V}{w:Value}(I:bB X h₀ ρ₀ env me ρ [] s)(hρ:ρ.ah=[])(hu:ρ.priv=[env.locals])(H:wR X ρ env.locals s u w s') :
 bB X h₀ ρ₀ env me ρ [] s'∧VR X ρ s'.heap w u∧FK X (Own env me) ρ.ah ρ.ah s.heap s'.heap:=by
 have hL:∀a,a∈fp ρ↔a=env.locals:=fun a=>by rw [aI,hρ,hu];simp [lp]
 have dG:∀a o,s.heap.get? a=some o→tB true o→¬X.tab a:=fun a o e hv=>I.aG.kK e hv;have M:bS true ρ ρ s.heap s'.heap:=⟨fun a o e ha hv=>H.keep a o e (dG a o e hv) fun z=>ha ((hL a).mpr z),prefix_refl _,fun a q nn=>absurd q nn⟩;have O3:(⟨[],ρ.priv⟩:aB)=ρ:=by cases ρ;cases hρ;rfl
 have hval:VR X ρ s'.heap w u:=by have:=H.val;rwa [O3] at this
 refine⟨⟨H.aG,?_,?_,?_,I.base,I.jm,I.gw⟩,hval,?_⟩
 ·refine⟨by rw [hρ];rfl,fun i p m e Z=>?_,by rw [hρ];exact Pairwise.nil,fun a ha=>?_,fun a ha=>?_,I.rel.ge⟩
  ·rw [hρ] at e;simp at e
  ·rw [hρ] at ha;simp [lp] at ha
  ·exact lt_of_lt_of_le (I.rel.lt a ha) H.size
 ·have En:=I.en;refine { En with loc:=?_,cell:=?_,pv:=?_ }
  ·refine aj En.loc ?_;intro m hn hv;refine⟨m,H.frame.ns hn,fun x u h1 h2=>?_⟩;refine aj (hv x u h1 h2) ?_;intro v h3 h4;exact⟨v,h3,h4.mono M (.inl rfl)⟩
  ·intro x k h1 h2;refine bV (En.cell x k h1 h2) ?_;intro c ov e1 e2 e3 e4;refine⟨c,ov,e1,e2,?_,fun u hu=>?_⟩
   ·refine aj e3 ?_;clear e3;intro o eo dd;refine⟨o,H.keep c o eo (I.aG.lY eo (fun ps z=>?_) (.inr fun es ep z=>by rw [dd] at z;cases z)) (fun z=>e2 ((hL c).mpr z)),dd⟩
    subst z;cases dd
   ·refine aj (e4 u hu) ?_;intro v h3 h4;exact⟨v,h3,h4.mono M (.inl rfl)⟩
  ·intro a ha;obtain rfl:a=env.locals:=(hL a).mp (aI.mpr (.inr ha));exact H.frame.pv (En.pv _ ha)
 ·have S:Step X ρ₀ ⟨ρ.ah,ρ₀.priv⟩ h₀ s.heap:=I.step;refine⟨fun a o e ht hl=>?_,S.pre,S.cI,S.fresh,le_trans S.size H.size⟩;exact H.keep a o (S.keep a o e ht hl) ht fun z=>absurd (lt_size e) (not_lt.mpr (by rw [z];exact I.jm))
 ·exact⟨fun a o e ht Z hy=>H.keep a o e ht fun z=>hy (.inl z),prefix_refl _,fun a q nn=>absurd q nn,H.size⟩
set_option maxHeartbeats 1000000 in
theorem UC{T:Tables}(RT:wU X T)(Fi:bI X)(CO:bL X C k){fR:b9}{oR:Obj}{xZ:FuncData}(FR:gJ X fR oR xZ){fV:b9}{oV:Obj}{fdV:FuncData}(FV:gJ X fV oV fdV)(hV:fV.addr=147)
 {p1 p2 p3 p4 p5:Pos} {vL:List Stmt} (yu:fV.body=.Assign [.Name "b" p1] (.Call (.Name "next" p2) [.Name "iterator" p3] [] p4) p5::vL)
 (nh:∀m,fV.bind [.loc m] none=some [(("iterator":Str),.loc m)]) (nu:∀m,fD fV.scope [(("iterator":Str),V.loc m)]=true) (yG:fV.scope.names.lookup ("iterator":Str)=some .local) (yR:fV.scope.names.lookup ("next":Str)=some .globalImplicit) (nq:fV.scope.kind=.function)
 {q1 q2 q3 q4 q5 q6 q7 q8 q9 ql qm qo:Pos} {pre:List Stmt} {last:Stmt} (hl:(q2.endLine==q6.line)=true)
 (yt:fR.body=pre++[.Try [.Expr (.Call (.Attribute (.Name "told" q1) "append" q2) [.Call (.Name "_parse_varint" q3) [.Name "hand" q4] [] q5] [] q6) q7] [.ExceptHandler (some (.Name "StopIteration" q8)) none [.Return (some (.Name "told" q9)) ql] qm] [] [] qo,last])
 {us:V} {bs:List (Str×V)} (rB:fR.bind [us] none=some bs) (rH:fD fR.scope bs=true) (rL:fR.scope.names.lookup ("told":Str)=some .local) (rF:fR.scope.kind=.function) (yV:fR.scope.names.lookup ("_parse_varint":Str)=some .globalImplicit) (yZ:fR.scope.names.lookup ("StopIteration":Str)=some .globalImplicit)
 {fuel:Nat} {bu:ao} {σ₁:aa} {m:Nat} {ls:List V} (hrun:aU C fuel (aJ fR bs) pre []=some (.next,bu,σ₁)) (rK:bu.vars "told"=some (.lst ls)) (hplain:(V.lst ls).plain=true) (y9:(V.lst ls).under 0=true) (rD:cy C bu "hand"=some (.loc m)) (hiter:σ₁[m]?=some (.iter []))
 {r1 r2 r3 r4 r5:Pos}   {A:Around} {E:Value→Shared→Prop}    (Rm:aT (k+1) A) (hA:A.frames=some [env]) (nj:env.frame=some env.locals) (hρ:ρ.ah=[]) (hu:ρ.priv=[env.locals]) (I:bB X h₀ ρ₀ env me ρ [] s)
 (hlr:me.names.lookup ("_law_read":Str)=some .globalImplicit) (yN:Looks (model P X.w) s.heap (loadGlobal env "_law_read") (.ref fR.addr)) (hnum:cy C me "numbers"=some us) (hrd:jk (me.names.lookup ("read":Str))=true) (yX:me.names.lookup ("read":Str)≠some .free) :
 wpAny (model P X.w) A (exec (.Assign [.Name "read" r1] (.Call (.Name "_law_read" r2) [.Name "numbers" r3] [] r4) r5) env) (cO X h₀ ρ₀ env me ρ s (Own env me) .next (me.set "read" (.lst ls)) []) E s:=by
 have kn:env.kindOf ("_law_read":Str)=some .globalImplicit:=by
  rcases I.en.names _ _ hlr with e|⟨e,_⟩
  ·exact e
  ·cases e
 refine wpAny_Assign_Name ?_ rfl;refine FU (by intro _ _ z;cases z) (by decide+kernel) (ks_loadName_global I.en.kind kn (yN.here ⟨rfl,?_⟩))
 refine (gW CO hnum I.aG I.en fun v hv=>⟨⟨.frame,.inl rfl,?_⟩,?_⟩).2
 ·exact r8 (I.aG.keep _ _ FR.at' FR.nt) FR.data
 refine wm (Uz RT Fi CO FR FV hV yu nh nu yG yR nq hl yt rB rH rL rF yV yZ hrun rK hplain y9 rD hiter Rm hA nj (by rw [I.en.kind];decide) I.en.priv hρ I.aG I.rel I.en.pv (.cons hv .nil)) (fun w s' H=>?_)
 refine bO (H.inF I hρ hu) ?_;intro I' rv F;exact oh Fi I' rv hrd yX hplain fun s'' gK HV=>⟨ρ.ah,.next,gK,F.trans HV,rfl⟩
end
noncomputable def dG:List (Addr×Str):=[(63,"_Accumulator.__len__.<locals>.<genexpr>"),(70,"_Accumulator.__str__.<locals>.<genexpr>"),(176,"_law_makers.<locals>.<lambda>"),(186,"_law_other.<locals>.<lambda>")]
noncomputable def gS(a:Addr):Bool:=beq a 63||beq a 70||beq a 176||beq a 186
noncomputable def cut(K:Frag):Frag:=K.filter fun p=>!gS p.1
noncomputable def Sf:FuncData:={ name:="",qualname:="",params:=⟨[],[],none,[],[],none,[]⟩,body:=.stmts [],scope:={ kind:=.function,names:=[],isGenerator:=false,isCoroutine:=false,more:=[] },globals:=0,closure:=[],code:=.none,defaults:=.none,kwdefaults:=.none }
noncomputable def noObj:Obj:={ cls:=.none,data:=.plain }
noncomputable def cg(K:Frag)(a:Addr):Obj:=(K.lookup a).getD noObj
noncomputable def cA(K:Frag)(a:Addr):FuncData:=match (cg K a).data with
 | .func fd=>fd
 | _=>Sf
noncomputable def gA(K:Frag)(a:Addr):Array Value:=match (cg K a).data with
 | .fields vs=>vs
 | .seq vs _=>vs
 | _=>#[]
noncomputable def jJ(K:Frag)(a:Addr):Array DictEntry:=match (cg K a).data with
 | .dict es _=>es
 | _=>#[]
noncomputable def CU(K:Frag)(a:Addr):Nat:=match (cg K a).data with
 | .dict _ n=>n
 | _=>0
noncomputable def tokOf(v:Value):Tok:=rec (motive:=fun Z=>Tok) 0 0 0 (fun Z=>0) (fun Z t=>t) (fun Z Z=>0) (fun Z t=>t) (fun Z Z=>0) (fun Z=>0) (fun Z=>0) (fun Z=>0) v
noncomputable def intOf(v:Value):Int:=rec (motive:=fun Z=>Int) 0 0 0 (fun Z=>0) (fun i Z=>i) (fun Z Z=>0) (fun Z Z=>0) (fun Z Z=>0) (fun Z=>0) (fun Z=>0) (fun Z=>0) v
noncomputable def strOf(v:Value):Str:=rec (motive:=fun Z=>Str) "" "" "" (fun Z=>"") (fun Z Z=>"") (fun Z Z=>"") (fun s Z=>s) (fun Z Z=>"") (fun Z=>"") (fun Z=>"") (fun Z=>"") v
noncomputable def qz(K:Frag)(a:Addr)(i:Nat):Tok:=tokOf ((gA K a).getD i .none)
structure k6(K:Frag)(a c:Addr)(nm:Str)(body:List Stmt)(scope:Scope)(aE:List (Str×Addr)):Prop where
 get:K.lookup a=some (cg K a)
 data:(cg K a).data=.func (cA K a)
 scope':(cA K a).scope=scope
 body':(cA K a).body=.stmts body
 globals:(cA K a).globals=mainGlobals
 builtins:(cA K a).builtins=builtinsNs
 aE:(cA K a).closure=aE
 qual:(cA K a).qualname=nm
 code:(cA K a).code=.ref c
 o7:K.lookup c=some (cg K c)
 cdata:(cg K c).data=.fields (gA K c)
 cname:(gA K c)[1]?=some (.str nm (qz K c 1))
 KW:(gA K c)[2]?=some (.str P.main.file (qz K c 2))
 ty:(cg K a).cls=.type "function"
structure kZ(K:Frag)(c T:Addr):Prop where
 get:K.lookup c=some (cg K c)
 cls:(cg K c).cls=.type "code"
 data:(cg K c).data=.fields (gA K c)
 f11:(gA K c)[11]?=some (.ref T)
 M7:(gA K c).getD 11 .none=.ref T
 M8:(gA K c).getD 18 .none=.str (strOf ((gA K c).getD 18 .none)) (qz K c 18)
 g7:(gA K c).getD 7 .none=.int (intOf ((gA K c).getD 7 .none)) (qz K c 7)
 g9:(gA K c).getD 9 .none=.bool true
 M6:(gA K c).getD 10 .none=.int (intOf ((gA K c).getD 10 .none)) (qz K c 10)
noncomputable def jK(K:Frag)(x:Str):Option Value:=match nsIn K mainGlobals x with
 | some (some v)=>some v
 | some none=>(nsIn K builtinsNs x).join
 | none=>none
noncomputable def K7:List Stmt:=(P.main.body.filterMap fun s=>if h:s.ctorIdx=2 then Stmt.ClassDef.elim (motive_2:=fun Z=>Option (List Stmt)) s h fun Z Z Z body Z Z Z Z Z Z Z=>some body else none).flatten
noncomputable def Rh:List (Str×mC):=K7.filterMap HJ
noncomputable def gU(nm:Str):mC:=(Rh.lookup nm).getD ⟨⟨[],[],none,[],[],none,[]⟩,[],{ kind:=.function,names:=[],isGenerator:=false,isCoroutine:=false,more:=[] }⟩
noncomputable abbrev iZ:List (Str×Addr):=[(("__class__":Str),25)]
noncomputable abbrev fJ(K:Frag)(nm:Str)(a c:Addr):Prop:=k6 K a c nm (iI nm).body (iI nm).scope []
noncomputable abbrev mD(K:Frag)(nm:Str)(a c:Addr)(aE:List (Str×Addr)):Prop:=k6 K a c ("_Accumulator."++nm) (gU nm).body (gU nm).scope aE
structure H6(K:Frag):Prop where
 C4:fJ K "insort_right" 114 113
 C5:fJ K "bisect_right" 123 122
 C6:fJ K "bisect_left" 132 131
 C7:fJ K "pretty_flags" 140 139
 xW:fJ K "_parse_varint" 147 146
 C8:fJ K "_law_read" 152 151
 C9:fJ K "_law_marks" 157 156
 Dc:fJ K "_law_met" 164 163
 Dd:fJ K "_law_even" 169 168
 De:fJ K "_law_ring" 174 173
 Df:fJ K "_law_makers" 179 178
 Dg:fJ K "_law_answer" 184 183
 Dh:fJ K "_law_other" 191 190
 Di:fJ K "_law_pieces" 196 195
 Dj:fJ K "_law_filled" 201 200
 Dk:fJ K "_law_taken" 206 205
 LZ:fJ K "law" 211 210
 sq:mD K "__init__" 38 37 iZ
 sr:mD K "push" 45 44 []
 su:mD K "pop_from" 53 52 []
 pX:mD K "pop" 61 60 iZ
 pY:mD K "__len__" 68 67 []
 pZ:mD K "__str__" 75 74 []
 lW:mD K "part_count" 98 97 iZ
 Cb:kZ K 67 63
 Cc:kZ K 74 70
 B9:kZ K 178 176
 Ca:kZ K 190 186
noncomputable abbrev Pk(K:Frag)(a:Addr)(args:Args)(bs:List (Str×Value)):Prop:=∀S,peek K S (bindArgs (cA K a) args)=some bs
noncomputable abbrev lq(K:Frag)(T:Addr):Value:=.int 0 (qz K T 0)
structure HZ(K:Frag):Prop where
 Jl:∀a,Pk K 140 ⟨[a],[]⟩ [("flags",a)]
 BG:∀a,Pk K 147 ⟨[a],[]⟩ [("iterator",a)]
 Jm:∀a,Pk K 152 ⟨[a],[]⟩ [("numbers",a)]
 Jo:∀a,Pk K 157 ⟨[a],[]⟩ [("base",a)]
 Jp:∀a b,Pk K 164 ⟨[a,b],[]⟩ [("streets",a),("ways",b)]
 Jq:∀a b,Pk K 169 ⟨[a,b],[]⟩ [("sizes",a),("ways",b)]
 Jr:∀a b,Pk K 174 ⟨[a,b],[]⟩ [("streets",a),("ways",b)]
 Js:∀a b c,Pk K 179 ⟨[a,b,c],[]⟩ [("streets",a),("here",b),("ways",c)]
 Jt:∀a b c d,Pk K 184 ⟨[a,b,c,d],[]⟩ [("sizes",a),("ways",b),("base",c),("marks",d)]
 Ju:∀a b c,Pk K 191 ⟨[a,b,c],[]⟩ [("sizes",a),("ways",b),("draw",c)]
 Jv:∀a b c,Pk K 196 ⟨[a,b,c],[]⟩ [("street",a),("first",b),("behind",c)]
 Jw:∀a b,Pk K 201 ⟨[a,b],[]⟩ [("sizes",a),("head",b)]
 Jx:∀a b c d,Pk K 206 ⟨[a,b,c,d],[]⟩ [("piles",a),("sizes",b),("left",c),("head",d)]
 Jy:∀a,Pk K 211 ⟨[a],[]⟩ [("script",a)]
 Jz:∀a b,Pk K 38 ⟨[a,b],[]⟩ [("self",a),("initial_size",b)]
 JA:∀a b c,Pk K 45 ⟨[a,b,c],[]⟩ [("self",a),("fws",b),("string",c)]
 JB:∀a b,Pk K 53 ⟨[a,b],[]⟩ [("self",a),("i",b)]
 JC:∀a,Pk K 61 ⟨[a],[]⟩ [("self",a)]
 JD:∀a,Pk K 68 ⟨[a],[]⟩ [("self",a)]
 JE:∀a,Pk K 75 ⟨[a],[]⟩ [("self",a)]
 WN:∀a,Pk K 98 ⟨[a],[]⟩ [("self",a)]
 I9:∀a x,Pk K 114 ⟨[a,x],[]⟩ [("a",a),("x",x),("lo",lq K 106),("hi",.none),("key",.none)]
 Jc:∀a x k,Pk K 114 ⟨[a,x],[("key",k)]⟩ [("a",a),("x",x),("lo",lq K 106),("hi",.none),("key",k)]
 Ja:∀a x l h,Pk K 114 ⟨[a,x,l,h],[]⟩ [("a",a),("x",x),("lo",l),("hi",h),("key",.none)]
 Jb:∀a x l h k,Pk K 114 ⟨[a,x,l,h],[("key",k)]⟩ [("a",a),("x",x),("lo",l),("hi",h),("key",k)]
 Jd:∀a x,Pk K 123 ⟨[a,x],[]⟩ [("a",a),("x",x),("lo",lq K 115),("hi",.none),("key",.none)]
 Jg:∀a x k,Pk K 123 ⟨[a,x],[("key",k)]⟩ [("a",a),("x",x),("lo",lq K 115),("hi",.none),("key",k)]
 Je:∀a x l h,Pk K 123 ⟨[a,x,l,h],[]⟩ [("a",a),("x",x),("lo",l),("hi",h),("key",.none)]
 Jf:∀a x l h k,Pk K 123 ⟨[a,x,l,h],[("key",k)]⟩ [("a",a),("x",x),("lo",l),("hi",h),("key",k)]
 Jh:∀a x,Pk K 132 ⟨[a,x],[]⟩ [("a",a),("x",x),("lo",lq K 124),("hi",.none),("key",.none)]
 Jk:∀a x k,Pk K 132 ⟨[a,x],[("key",k)]⟩ [("a",a),("x",x),("lo",lq K 124),("hi",.none),("key",k)]
 Ji:∀a x l h,Pk K 132 ⟨[a,x,l,h],[]⟩ [("a",a),("x",x),("lo",l),("hi",h),("key",.none)]
 Jj:∀a x l h k,Pk K 132 ⟨[a,x,l,h],[("key",k)]⟩ [("a",a),("x",x),("lo",l),("hi",h),("key",k)]
noncomputable def Nh(K:Frag):Bool:=m7.all fun p=>(m6 p.2).elim false fun v=>(jK K p.1==some v)&&p.2.xh.elim true fun a=>Nat.blt a nB
noncomputable def Ds(e:DictEntry):Bool:=e.key==.int (intOf e.key) (tokOf e.key)&&e.val==.str (strOf e.val) (tokOf e.val)
noncomputable def Dw(es:Array DictEntry)(tab:List (Int×Str)):Bool:=(es.toList.map fun e=>(e.hash,intOf e.key,strOf e.val))==(tab.map fun p=>(hashInt p.1,p.1,p.2))&&es.toList.all Ds
noncomputable def G7(es:Array DictEntry):Bool:=es.toList.all fun e=>e.key==.str (strOf e.key) (tokOf e.key)
noncomputable abbrev oZ(K:Frag)(a:Addr):ClassData:=(clsIn K a).getD { name:="",bases:=[],mro:=[],ns:=0,qualname:="" }
noncomputable abbrev jD(K:Frag):Addr:=match nsFind (jJ K mainGlobals) "__builtins__" with
 | some (.ref a)=>a
 | _=>0
structure k8(eY:Params)(K:Frag):Prop where
 QG:nsFind (jJ K mainGlobals) "law"=some (.ref 211)
 m7:Nh K=true
 Na:jK K "super"=some (.type "super")
 Nb:jK K "StopIteration"=some (.type "StopIteration")
 M9:jK K "EMPTYSTRING"=some (.str jI (tokOf ((jK K "EMPTYSTRING").getD .none)))
 Qv:peek K ⟨P,eY⟩ (keeperOf (.ref 101))=some .machine
 bf:peek K ⟨P,eY⟩ (builtinsFor mainGlobals builtinsNs)=some builtinsNs
 Dv:K.lookup 133=some (cg K 133)
 Dt:(cg K 133).cls=.type "dict"
 Du:(cg K 133).dict=none
 MN:(cg K 133).slots=#[]
 ML:(cg K 133).data=.dict (jJ K 133) (CU K 133)
 MM:Dw (jJ K 133) um=true
 Fx:K.lookup mainGlobals=some (cg K mainGlobals)
 Fw:(cg K mainGlobals).data=.dict (jJ K mainGlobals) (CU K mainGlobals)
 Ro:G7 (jJ K mainGlobals)=true
 bm:nsFind (jJ K mainGlobals) "__builtins__"=some (.ref (jD K))
 Km:(beq (jD K) builtinsNs||beq (jD K) mainGlobals||gS (jD K))=false
 Kl:K.lookup (jD K)=some (cg K (jD K))
 Kf:(cg K (jD K)).cls=.type "module"
 Kh:(cg K (jD K)).dict=some builtinsNs
 Kg:(cg K (jD K)).data=.plain
 cls:clsIn K aN=some (oZ K aN)
 mro:(oZ K aN).mro=[.ref aN,.type "list",.type "object"]
 qn:(oZ K aN).qualname=ofString "_Accumulator"
 hasDict:(oZ K aN).hasDict=true
 ga:findIn K (.ref aN) "__getattribute__"=some (some (.builtin "list.__getattribute__"))
 gt:findIn K (.ref aN) "__getattr__"=some none
 jQ:mroIn K aN (.type "list")=some true
 pO:mroIn K aN (.type "module")=some false
 zo:mroIn K aN (.ref aN)=some true
 ty:typeIn K (.ref aN)=some (.type "type")
 any:nsIn K cStatics "thirdparty.any"=some none
 xY:findIn K (.ref aN) "append"=some (some (.builtin "list.append"))
 ue:findIn K (.ref aN) "part_count"=some (some (.ref 98))
 Mc:findIn K (.ref aN) "push"=some (some (.ref 45))
 Mb:findIn K (.ref aN) "pop_from"=some (some (.ref 53))
 Ma:findIn K (.ref aN) "pop"=some (some (.ref 61))
 L6:findIn K (.ref aN) "__init__"=some (some (.ref 38))
 L8:findIn K (.ref aN) "__len__"=some (some (.ref 68))
 Mi:findIn K (.ref aN) "__str__"=some (some (.ref 75))
 L7:findIn K (.ref aN) "__iter__"=some (some (.builtin "list.__iter__"))
 L5:findIn K (.ref aN) "__getitem__"=some (some (.builtin "list.__getitem__"))
 Mf:findIn K (.ref aN) "__setitem__"=some (some (.builtin "list.__setitem__"))
 tV:mroIn K aN (.type "collections.deque")=some false
 makes:vc K aN=true
 Mh:findIn K (.ref aN) "_initial_size"=some none
 Mg:findIn K (.ref aN) "__setattr__"=some (some (.builtin "object.__setattr__"))
 size:∀hh kt init t,findObj K aN (some (Av hh kt init t)) "_initial_size"=some (.value (.int init t))
 cellGet:K.lookup 25=some (cg K 25)
 KV:(cg K 25).data=.cell (some (.ref aN))
 F1:(cA K 98).defaults=.none∧(cA K 98).kwdefaults=.none
 Tv:(cA K 98).params=(gU "part_count").params
 Tu:(cA K 61).params=(gU "pop").params
 Tt:(cA K 38).params=(gU "__init__").params
structure H7(K:Frag):Prop where
 Hj:K.lookup 63=some (tabObj #[])
 Hl:K.lookup 70=some (tabObj #[])
 Hg:K.lookup 176=some (tabObj #[])
 Hh:K.lookup 186=some (tabObj #[])
structure KF(eY:Params)(K:Frag):Prop where
 fns:H6 (cut K)
 binds:HZ (cut K)
 rest:k8 eY (cut K)
 tabs:H7 K
section
variable{a c:Addr}{nm p1 p2 p3:Str}{body:List Stmt}{scope:Scope}{bs:List (Str×V)}{ps:List Str}{us:List V}{key:Option V}{α:Type}
noncomputable def XX(w:World)(s:Shared):Ctx:={ w:=w,hB:=s.heap,os:=s.os,tabs:=dG }
theorem jU{w:World}{s:Shared}:¬(XX w s).tab a↔gS a=false:=by
 have:(XX w s).tab a↔gS a=true:=by
  unfold Ctx.tab XX dG gS;simp only [map_cons,map_nil,mem_cons,not_mem_nil,or_false,or_eq_true,Nat.beq_eq,or_assoc]
 rw [this];simp
theorem Q0{f:Addr→Bool}:∀{K:Frag} {a:Addr},(K.filter fun p=>f p.1).lookup a=if f a then K.lookup a else none:=by
 intro K
 induction K with
 | nil=>intro a;simp
 | cons hd0 r rc=>
  obtain⟨b,o⟩:=hd0;intro a;rw [List.filter_cons];dsimp only
  by_cases hb:f b=true
  ·rw [if_pos hb];rw [lookup_cons,lookup_cons];cases hab:(a==b) with
   | true=>rw [beq_iff_eq] at hab;subst hab;simp [hb]
   | false=>dsimp only;exact rc
  ·rw [if_neg hb];rw [lookup_cons];cases hab:(a==b) with
   | true=>rw [beq_iff_eq] at hab;subst hab;rw [rc,if_neg hb,if_neg hb]
   | false=>dsimp only;exact rc
theorem jH{K:Frag}{o:Obj}(e:(cut K).lookup a=some o):K.lookup a=some o∧gS a=false:=by
 have e':(if (!gS a) then K.lookup a else none)=some o:=(Q0 (f:=fun a=>!gS a)).symm.trans e
 exact bZ e' fun h e'=>⟨e',by simpa using h⟩
section
variable{w:World}{s:Shared}{K:Frag}
theorem fj(KX:K.In s.heap):∀h,Keeps (XX w s) h→(cut K).In h:=fun h k a o e=>
 k a o (KX a o (jH e).1) (jU.mpr (jH e).2)
theorem i8(KX:K.In s.heap):(cut K).In s.heap:=fun a o e=>KX a o (jH e).1
theorem fy(KX:K.In s.heap)(F:k6 (cut K) a c nm body scope []){f:b9}(ha:f.addr=a)(hn:f.name=nm)(hb:f.body=body)(hs:f.scope=scope)(hc:f.code=.ref c)
 (hbind:∀{us:List V} {key:Option V} {bs:List (Str×V)},f.bind us key=some bs→∀{ρ:aB} {s':Shared} {vs:List Value} {kw:List (Str×Value)},aq (XX w s) s'→aC (XX w s) ρ s'.heap vs us→j6 (XX w s) ρ s'.heap kw key→
  ∃binds,BindsTo s' (cA (cut K) a) ⟨vs,kw⟩ binds∧binds.map (·.1)=bs.map (·.1)∧aC (XX w s) ρ s'.heap (binds.map (·.2)) (bs.map (·.2))):gJ (XX w s) f (cg (cut K) a) (cA (cut K) a):=by
 subst ha hn hb hs;exact⟨i8 KX _ _ F.get,jU.mpr (jH F.get).2,F.data,F.scope',F.body',F.globals,F.builtins,F.aE,F.qual,F.code.trans hc.symm,⟨c,_,_,_,hc,i8 KX _ _ F.o7,jU.mpr (jH F.o7).2,F.cdata,F.cname⟩,hbind⟩
theorem qg{aE:List (Str×Addr)}(KX:K.In s.heap)(F:k6 (cut K) a c nm body scope aE)(hinj:∀(x y:Str) (c:Addr),aE.lookup x=some c→aE.lookup y=some c→x=y)
 (hk:scope.kind=.function) (hco:scope.isCoroutine=false) (hg:scope.isGenerator=false) (hnc:(scope.names.all fun x=>!(x.2==.cell))=true):MethAt (XX w s) a aE (cA (cut K) a) (cg (cut K) a):=by
 have hs:=F.scope';refine⟨i8 KX _ _ F.get,jU.mpr (jH F.get).2,F.data,F.globals,F.builtins,F.aE,hinj,by rw [hs];exact hk,by rw [hs];exact hco,by rw [hs];exact hg,fun x hx z=>?_,⟨c,_,_,_,F.code,i8 KX _ _ F.o7,jU.mpr (jH F.o7).2,F.cdata,by rw [F.qual];exact F.cname⟩⟩
 rw [hs] at hx;have:=all_eq_true.mp hnc x hx;rw [z] at this;exact absurd this (by decide)
theorem jx(KX:K.In s.heap){args:Args}{bs:List (Str×Value)}(h:Pk (cut K) a args bs){s':Shared}(Am:aq (XX w s) s'):BindsTo s' (cA (cut K) a) args bs:=
 kp_binds (fj (w:=w) KX _ Am.keeps) h
noncomputable abbrev oH(w:World)(s:Shared)(K:Frag)(a:Addr)(bind:List V→Option V→Option (List (Str×V))):Prop:=
 ∀{us:List V} {key:Option V} {bs:List (Str×V)},bind us key=some bs→∀{ρ:aB} {s':Shared} {vs:List Value} {kw:List (Str×Value)},aq (XX w s) s'→aC (XX w s) ρ s'.heap vs us→j6 (XX w s) ρ s'.heap kw key→
  ∃binds,BindsTo s' (cA (cut K) a) ⟨vs,kw⟩ binds∧binds.map (·.1)=bs.map (·.1)∧aC (XX w s) ρ s'.heap (binds.map (·.2)) (bs.map (·.2))
theorem kw_none{ρ:aB}{h:Heap}{X:Ctx}{kw:List (Str×Value)}(r:j6 X ρ h kw none):kw=[]:=by
 obtain⟨rfl,_⟩|⟨_,_,_,h2,_⟩:=r
 ·rfl
 ·cases h2
theorem T5(e:jV ps us key=some bs):key=none∧us.length=ps.length∧bs=ps.zip us:=by
 refine bJ e ?_;rintro hc rfl;refine au (and_eq_true_iff.mp hc) ?_;intro h1 h2;exact⟨isNone_iff_eq_none.mp h1,eq_of_beq h2,rfl⟩
theorem tN(KX:K.In s.heap)(h:∀vs:List Value,vs.length=ps.length→Pk (cut K) a ⟨vs,[]⟩ (ps.zip vs)):oH w s K a (jV ps):=by
 intro us key bs e ρ s' vs kw Am rs rk;refine bO (T5 e) ?_;rintro rfl hl rfl;obtain rfl:=kw_none rk;have hv:vs.length=ps.length:=rs.length.trans hl;refine⟨_,jx KX (h vs hv) Am,?_,?_⟩
 ·rw [List.map_fst_zip (by lia),List.map_fst_zip (by lia)]
 ·rw [List.map_snd_zip (by lia),List.map_snd_zip (by lia)];exact rs
theorem jR{l:List α}{n:Nat}(h:l.length=n+1):∃a r,l=a::r∧r.length=n:=by
 cases l with
 | nil=>cases h
 | cons a r=>exact⟨a,r,rfl,Nat.succ.inj h⟩
theorem uY{l:List α}(h:l.length=0):l=[]:=List.length_eq_zero_iff.mp h
theorem bind1(KX:K.In s.heap)(h:∀v,Pk (cut K) a ⟨[v],[]⟩ [(p1,v)])(hp:ps=[p1]):oH w s K a (jV ps):=by
 subst hp;refine tN KX fun vs hl=>?_;replace hl:=jR hl;refine bK hl ?_;clear hl;rintro v vs rfl hl;obtain rfl:=uY hl;exact h v
theorem tM(KX:K.In s.heap)(h:∀v v2,Pk (cut K) a ⟨[v,v2],[]⟩ [(p1,v),(p2,v2)])(hp:ps=[p1,p2]):oH w s K a (jV ps):=by
 subst hp;refine tN KX fun vs hl=>?_;replace hl:=jR hl;refine bK hl ?_;clear hl;rintro v vs rfl hl;replace hl:=jR hl;refine bK hl ?_;clear hl;rintro v2 vs rfl hl;obtain rfl:=uY hl;exact h v v2
theorem xu(KX:K.In s.heap)(h:∀v v2 v3,Pk (cut K) a ⟨[v,v2,v3],[]⟩ [(p1,v),(p2,v2),(p3,v3)])(hp:ps=[p1,p2,p3]):oH w s K a (jV ps):=by
 subst hp;refine tN KX fun vs hl=>?_;replace hl:=jR hl;refine bK hl ?_;clear hl;rintro v vs rfl hl;replace hl:=jR hl;refine bK hl ?_;clear hl;rintro v2 vs rfl hl;replace hl:=jR hl;refine bK hl ?_;clear hl;rintro v3 vs rfl hl;obtain rfl:=uY hl;exact h v v2 v3
theorem BY(KX:K.In s.heap){p4:Str}(h:∀v v2 v3 v4,Pk (cut K) a ⟨[v,v2,v3,v4],[]⟩ [(p1,v),(p2,v2),(p3,v3),(p4,v4)])(hp:ps=[p1,p2,p3,p4]):oH w s K a (jV ps):=by
 subst hp;refine tN KX fun vs hl=>?_;replace hl:=jR hl;refine bK hl ?_;clear hl;rintro v vs rfl hl;replace hl:=jR hl;refine bK hl ?_;clear hl;rintro v2 vs rfl hl;replace hl:=jR hl;refine bK hl ?_;clear hl;rintro v3 vs rfl hl;replace hl:=jR hl;refine bK hl ?_;clear hl;rintro v4 vs rfl hl;obtain rfl:=uY hl;exact h v v2 v3 v4
theorem JK(e:xm us key=some bs):(∃a x,us=[a,x]∧bs=([("a",a),("x",x),("lo",.int 0),("hi",.none),("key",key.getD .none)]:List (Str×V)))∨
 ∃a x l h,us=[a,x,l,h]∧bs=([("a",a),("x",x),("lo",l),("hi",h),("key",key.getD .none)]:List (Str×V)):=by
 cases us with
 | nil=>exact nn e
 | cons a us=>cases us with
  | nil=>exact nn e
  | cons x us=>cases us with
   | nil=>exact .inl ⟨a,x,rfl,(Option.some.inj e).symm⟩
   | cons l us=>cases us with
    | nil=>exact nn e
    | cons h us=>cases us with
     | nil=>exact .inr ⟨a,x,l,h,rfl,(Option.some.inj e).symm⟩
     | cons=>exact nn e
theorem xw(KX:K.In s.heap){T:Addr}(h1:∀v x,Pk (cut K) a ⟨[v,x],[]⟩ [("a",v),("x",x),("lo",lq (cut K) T),("hi",.none),("key",.none)])
 (h2:∀v x k,Pk (cut K) a ⟨[v,x],[("key",k)]⟩ [("a",v),("x",x),("lo",lq (cut K) T),("hi",.none),("key",k)])
 (h3:∀v x l h,Pk (cut K) a ⟨[v,x,l,h],[]⟩ [("a",v),("x",x),("lo",l),("hi",h),("key",.none)])
 (h4:∀v x l h k,Pk (cut K) a ⟨[v,x,l,h],[("key",k)]⟩ [("a",v),("x",x),("lo",l),("hi",h),("key",k)]):oH w s K a xm:=by
 intro us key bs e ρ s' vs kw Am rs rk;rcases JK e with⟨ua,ux,rfl,rfl⟩|⟨ua,ux,ul,uh,rfl,rfl⟩
 ·refine bw rs.inv ?_;rintro v ws rfl r1 rs;refine bw rs.inv ?_;rintro v2 ws rfl r2 rs;obtain rfl:=rs.nil_inv;obtain⟨rfl,rfl⟩|⟨v',u',rfl,rfl,rv⟩:=rk
  ·exact⟨_,jx KX (h1 v v2) Am,rfl,.cons r1 (.cons r2 (.cons (.int _ _) (.cons .none (.cons .none .nil))))⟩
  ·exact⟨_,jx KX (h2 v v2 v') Am,rfl,.cons r1 (.cons r2 (.cons (.int _ _) (.cons .none (.cons rv .nil))))⟩
 ·refine bw rs.inv ?_;rintro v ws rfl r1 rs;refine bw rs.inv ?_;rintro v2 ws rfl r2 rs;refine bw rs.inv ?_;rintro v3 ws rfl r3 rs;refine bw rs.inv ?_;rintro v4 ws rfl r4 rs;obtain rfl:=rs.nil_inv;obtain⟨rfl,rfl⟩|⟨v',u',rfl,rfl,rv⟩:=rk
  ·exact⟨_,jx KX (h3 v v2 v3 v4) Am,rfl,.cons r1 (.cons r2 (.cons r3 (.cons r4 (.cons .none .nil))))⟩
  ·exact⟨_,jx KX (h4 v v2 v3 v4 v') Am,rfl,.cons r1 (.cons r2 (.cons r3 (.cons r4 (.cons rv .nil))))⟩
end
end
section
variable{eY:Params}{c T:Addr}{q:Str}
section
variable{w:World}{s:Shared}{K:Frag}
theorem kg{K:Frag}{M:Model}{h:Heap}(x:K.In h){nm:Str}{v:Value}(e:jK K nm=some v){env:Env}(hg:env.globals=mainGlobals)(hb:env.builtins=builtinsNs):Looks M h (loadGlobal env nm) v:=by
 intro A Q E s k q;unfold loadGlobal;rw [hg,hb];cases hu:nsIn K mainGlobals nm with
 | none=>unfold jK at e;rw [hu] at e;exact nn e
 | some r=>cases r with
  | some u=>unfold jK at e;rw [hu] at e;obtain rfl:=Option.some.inj e;exact wpAny_bind (looks_nsIn x hu A _ E s k (wpAny_pure q))
  | none=>
   unfold jK at e;rw [hu] at e;refine wpAny_bind (looks_nsIn x hu A _ E s k ?_);cases h2:nsIn K builtinsNs nm with
   | none=>rw [h2] at e;exact nn e
   | some r=>rw [h2] at e;obtain rfl:r=some v:=e;exact wpAny_bind (looks_nsIn x h2 A _ E s k (wpAny_pure q))
theorem Fe{β:Type}{l:List (Str×β)}{x:Str}{u:β}(e:l.lookup x=some u):(x,u)∈l:=by
 induction l with
 | nil=>exact nn e
 | cons p r ih=>
  rcases u0 (y:=p.1) (u:=p.2) e with⟨rfl,rfl⟩|⟨_,e⟩
  ·exact mem_cons_self
  ·exact mem_cons_of_mem _ (ih e)
theorem Ni(KX:K.In s.heap)(R:k8 eY (cut K)):∀x u,m7.lookup x=some u→(∃v,m6 u=some v∧(∀a,u=.base a→a<nB)∧∀h,Keeps (XX w s) h→∀env:Env,env.globals=mainGlobals→env.builtins=builtinsNs→Looks (model P w) h (loadGlobal env x) v):=by
 intro x u e;have h1:=all_eq_true.mp R.m7 _ (Fe e);dsimp only at h1;cases hv:m6 u with
 | none=>rw [hv] at h1;exact ff h1
 | some v=>rw [hv] at h1;obtain⟨h2,h3⟩:=and_eq_true_iff.mp h1;refine⟨v,rfl,fun a ha=>?_,fun h k env hg hb=>kg (fj KX h k) (eq_of_beq h2) hg hb⟩;subst ha;exact Nat.le_of_ble_eq_true h3
theorem MT:∀{es:List DictEntry} {tab:List (Int×Str)},(es.map fun e=>(e.hash,intOf e.key,strOf e.val))=(tab.map fun p=>(hashInt p.1,p.1,p.2))→es.all Ds=true→
 (∀e∈es,∃k:Int,(intKind P w).is k e.key=true∧e.hash=(intKind P w).hash k)∧Pairs (intKind P w) es (es.map fun e=>(intOf e.key,e.val))∧(es.map fun e=>(intOf e.key,e.val)).map (·.1)=tab.map (·.1)∧
  PyProof.V.FlatPairs PyData.int (es.map fun e=>(intOf e.key,e.val)) (tab.map fun p=>(PyData.int p.1,PyData.str p.2)):=by
 intro es
 induction es with
 | nil=>
  intro tab h _;cases tab with
  | nil=>exact⟨fun Z h=>by simp at h,.nil,rfl,.nil⟩
  | cons=>exact nomatch h
 | cons e es rc=>
  intro tab h h2;cases tab with
  | nil=>exact nomatch h
  | cons p tab=>
   obtain⟨h0,h⟩:=List.cons.inj h;obtain⟨e1,e2,e3⟩:=Ad h0;obtain⟨h3,h2⟩:=and_eq_true_iff.mp h2;refine gQ (rc h h2) ?_;intro a b c d;obtain⟨h4,h5⟩:=and_eq_true_iff.mp h3;replace h4:=eq_of_beq h4;replace h5:=eq_of_beq h5;refine⟨fun e' he'=>?_,?_,?_,?_⟩
   ·rcases mem_cons.mp he' with rfl|he'
    ·exact⟨intOf e'.key,by rw [h4];exact intKind_is _ _ _ _,by rw [e1,e2];rfl⟩
    ·exact a e' he'
   ·exact .cons (by rw [h4];exact intKind_is _ _ _ _) rfl b
   ·exact List.cons_eq_cons.mpr ⟨e2,c⟩
   ·show PyProof.V.FlatPairs PyData.int ((intOf e.key,e.val)::_) (_::_);rw [h5,e3,e2];exact .cons (PyProof.V.Flat.str _ _) d
theorem MP(KX:K.In s.heap)(R:k8 eY (cut K)):wD (XX w s) 133 um:=by
 refine⟨by decide,jU.mpr (by decide),cg (cut K) 133,(jJ (cut K) 133).toList.map fun e=>(intOf e.key,e.val),i8 KX _ _ R.Dv,⟨_,_,⟨R.Dt,R.Du,R.MN⟩,R.ML,?_,?_,?_⟩,?_⟩
 all_goals
  have hf:=R.MM;unfold Dw at hf;rw [and_eq_true,beq_iff_eq] at hf;refine gQ (MT (w:=w) hf.1 hf.2) ?_;intro a b c d
 ·exact fun e he=>a e (by simpa using he)
 ·exact b
 ·rw [c];decide
 ·exact d
theorem Vm{es:Array DictEntry}(h:G7 es=true):StrKeys es:=by
 intro e he;have:=all_eq_true.mp h e (by simpa using he)
 exact⟨_,_,eq_of_beq this⟩
theorem Cv(KX:K.In s.heap)(F:kZ (cut K) c T)(hne:c≠T):∀h,Keeps (XX w s) h→CodeHd h c T:=fun h k=>
 ⟨_,_,_,_,_,_,_,_,_,fj KX h k _ _ F.get,F.cls,F.data,F.f11,F.M7,F.M8,F.g7,F.g9,F.M6,hne⟩
theorem E4(KX:K.In s.heap)(R:k8 eY (cut K))(F:kZ (cut K) c T)(hne:c≠T)(hm:(T,q++"<lambda>")∈dG)(hu:∀z,(T,z)∈dG→z=q++"<lambda>")(hT:gS T=true)(hg:mainGlobals≠T) :
 wI (XX w s) (.ref c) q c T (nsFind (jJ (cut K) mainGlobals)):=by
 refine⟨rfl,hm,hu,hg,fun h k=>⟨Cv KX F hne h k,⟨_,_,_,fj KX h k _ _ R.Fx,R.Fw,Vm R.Ro,fun Z=>rfl⟩,?_⟩⟩;have hb:=R.Km;simp only [or_eq_false_iff] at hb;refine au hb ?_;clear hb;intro hh;refine au hh ?_;clear hh;intro b1 b2;intro b3;refine⟨jD (cut K),_,R.bm,fun z=>?_,fun z=>?_,fun z=>?_,fj KX h k _ _ R.Kl,R.Kf,R.Kh,R.Kg⟩
 ·rw [z,beq_refl] at b1;cases b1
 ·rw [z,beq_refl] at b2;cases b2
 ·rw [z,hT] at b3;cases b3
theorem DG(KX:K.In s.heap)(F:kZ (cut K) c T)(hne:c≠T)(hm:(T,q++"<genexpr>")∈dG)(hu:∀z,(T,z)∈dG→z=q++"<genexpr>"):oJ (XX w s) q c T:=
 ⟨hm,hu,Cv KX F hne⟩
theorem vZ(h:(dG.filter fun p=>beq p.1 T)=[(T,q)]):∀z,(T,z)∈dG→z=q:=by
 intro z hz;have:(T,z)∈dG.filter fun p=>beq p.1 T:=mem_filter.mpr ⟨hz,beq_refl T⟩;rw [h] at this;simpa using this
theorem vY(h:(dG.filter fun p=>beq p.1 T)=[(T,q)]):(T,q)∈dG:=by
 have:(T,q)∈dG.filter fun p=>beq p.1 T:=by rw [h];exact mem_singleton.mpr rfl
 exact (mem_filter.mp this).1
theorem Hs:(dG.filter fun p=>beq p.1 176)=[(176,("_law_makers.<locals>.":Str)++"<lambda>")]:=by kernel_rfl
theorem Ht:(dG.filter fun p=>beq p.1 186)=[(186,("_law_other.<locals>.":Str)++"<lambda>")]:=by kernel_rfl
theorem Hu:(dG.filter fun p=>beq p.1 63)=[(63,("_Accumulator.__len__":Str)++".<locals>."++"<genexpr>")]:=by kernel_rfl
theorem Hv:(dG.filter fun p=>beq p.1 70)=[(70,("_Accumulator.__str__":Str)++".<locals>."++"<genexpr>")]:=by kernel_rfl
end
end
section
variable{eY:Params}{a c:Addr}{nm:Str}{body:List Stmt}{scope:Scope}{aE:List (Str×Addr)}
section
variable{w:World}{s:Shared}{K:Frag}
noncomputable def gn(nm:Str):List Str:=(iI nm).params.args.map fun x=>x.arg
theorem MW(KX:K.In s.heap)(F:KF eY K):∀f∈k9,∃o fd,gJ (XX w s) f o fd:=by
 obtain⟨⟨C4,C5,C6,C7,xW,C8,C9,Dc,Dd,De,Df,Dg,Dh,Di,Dj,Dk,_⟩,B,_,_⟩:=F;intro f hf;simp only [k9,mem_cons,not_mem_nil,or_false] at hf;rcases hf with rfl|rfl|rfl|rfl|rfl|rfl|rfl|rfl|rfl|rfl|rfl|rfl|rfl|rfl|rfl
 ·exact⟨_,_,fy KX C4 rfl rfl rfl rfl rfl (xw KX B.I9 B.Jc B.Ja B.Jb)⟩
 ·exact⟨_,_,fy KX C5 rfl rfl rfl rfl rfl (xw KX B.Jd B.Jg B.Je B.Jf)⟩
 ·exact⟨_,_,fy KX C6 rfl rfl rfl rfl rfl (xw KX B.Jh B.Jk B.Ji B.Jj)⟩
 ·exact⟨_,_,fy KX C7 rfl rfl rfl rfl rfl (bind1 KX B.Jl (ps:=gn "pretty_flags") (by kernel_rfl!))⟩
 ·exact⟨_,_,fy KX xW rfl rfl rfl rfl rfl (bind1 KX B.BG (ps:=gn "_parse_varint") (by kernel_rfl!))⟩
 ·exact⟨_,_,fy KX C9 rfl rfl rfl rfl rfl (bind1 KX B.Jo (ps:=gn "_law_marks") (by kernel_rfl!))⟩
 ·exact⟨_,_,fy KX Dc rfl rfl rfl rfl rfl (tM KX B.Jp (ps:=gn "_law_met") (by kernel_rfl!))⟩
 ·exact⟨_,_,fy KX Dd rfl rfl rfl rfl rfl (tM KX B.Jq (ps:=gn "_law_even") (by kernel_rfl!))⟩
 ·exact⟨_,_,fy KX De rfl rfl rfl rfl rfl (tM KX B.Jr (ps:=gn "_law_ring") (by kernel_rfl!))⟩
 ·exact⟨_,_,fy KX Df rfl rfl rfl rfl rfl (xu KX B.Js (ps:=gn "_law_makers") (by kernel_rfl!))⟩
 ·exact⟨_,_,fy KX Dg rfl rfl rfl rfl rfl (BY KX B.Jt (ps:=gn "_law_answer") (by kernel_rfl!))⟩
 ·exact⟨_,_,fy KX Dh rfl rfl rfl rfl rfl (xu KX B.Ju (ps:=gn "_law_other") (by kernel_rfl!))⟩
 ·exact⟨_,_,fy KX Di rfl rfl rfl rfl rfl (xu KX B.Jv (ps:=gn "_law_pieces") (by kernel_rfl!))⟩
 ·exact⟨_,_,fy KX Dj rfl rfl rfl rfl rfl (tM KX B.Jw (ps:=gn "_law_filled") (by kernel_rfl!))⟩
 ·exact⟨_,_,fy KX Dk rfl rfl rfl rfl rfl (BY KX B.Jx (ps:=gn "_law_taken") (by kernel_rfl!))⟩
theorem UA(KX:K.In s.heap)(F:KF eY K):gJ (XX w s) (fnOf "_law_read" 152 151) (cg (cut K) 152) (cA (cut K) 152):=
 fy KX F.fns.C8 rfl rfl rfl rfl rfl (bind1 KX F.binds.Jm (ps:=gn "_law_read") (by kernel_rfl!))
theorem Wk(KX:K.In s.heap)(F:KF eY K):gJ (XX w s) (fnOf "_parse_varint" 147 146) (cg (cut K) 147) (cA (cut K) 147):=
 fy KX F.fns.xW rfl rfl rfl rfl rfl (bind1 KX F.binds.BG (ps:=gn "_parse_varint") (by kernel_rfl!))
theorem K1{K:Frag}(R:k8 eY K):j4 K (oZ K aN):=⟨R.cls,R.mro,R.qn,R.ga,R.gt,R.jQ,R.pO,R.zo,R.ty,R.any⟩
theorem ru{K:Frag}(KX:K.In s.heap)(F:k6 (cut K) a c nm body scope aE):∀h,Keeps (XX w s) h→Looks (model P w) h (keeperOf (.ref a)) .frame:=
 fun h k=>r8 (fj KX h k _ _ F.get) F.data
theorem lH{K:Frag}(F:k6 K a c nm body scope aE):typeIn K (.ref a)=some (.type "function"):=by
 show (K.lookup a).map (·.cls)=_
 rw [F.get,map_some,F.ty]
theorem JI(KX:K.In s.heap)(F:KF w.params K)(hs:s.heap.objs.size≤nB):j3 (XX w s) TT where
 fM:=⟨hs⟩
 fns:=MW KX F
 glob:=Ni KX F.rest
 flags:=MP KX F.rest
 lams:=fun p hp=>by
  simp only [TT,mem_cons,not_mem_nil,or_false] at hp;rcases hp with rfl|rfl
  ·exact⟨_,_,E4 KX F.rest F.fns.B9 (by decide) (vY Hs) (vZ Hs) (by decide) (by decide)⟩
  ·exact⟨_,_,E4 KX F.rest F.fns.Ca (by decide) (vY Ht) (vZ Ht) (by decide) (by decide)⟩
 keep:=fun a ha h k=>by
  rcases ha with rfl|rfl|rfl|rfl|rfl
  ·exact⟨.machine,.inr (.inl rfl),Looks.of_peek (fj KX h k) F.rest.Qv⟩
  ·exact⟨.frame,.inl rfl,ru KX F.fns.sr h k⟩
  ·exact⟨.frame,.inl rfl,ru KX F.fns.su h k⟩
  ·exact⟨.frame,.inl rfl,ru KX F.fns.pX h k⟩
  ·exact⟨.frame,.inl rfl,ru KX F.fns.lW h k⟩
 meth:=fun h k {a d init vs} at' {name f} hn {A E s' pl Q} he hq=>by
  subst he;refine bK at'.inst ?_;intro ox od I hs;have hK:=fj KX _ k;rcases hn with⟨rfl,rfl⟩|⟨rfl,rfl⟩|⟨rfl,rfl⟩|⟨rfl,rfl⟩
  ·exact qL hK I F.rest.ga F.rest.gt F.rest.Mc (lH F.fns.sr) (hs _ (by decide+kernel)) hq
  ·exact qL hK I F.rest.ga F.rest.gt F.rest.Mb (lH F.fns.su) (hs _ (by decide+kernel)) hq
  ·exact qL hK I F.rest.ga F.rest.gt F.rest.Ma (lH F.fns.pX) (hs _ (by decide+kernel)) hq
  ·exact qL hK I F.rest.ga F.rest.gt F.rest.ue (lH F.fns.lW) (hs _ (by decide+kernel)) hq
 small:=⟨by decide,by decide,by decide,by decide⟩
 dict:=⟨_,i8 KX _ _ F.rest.Dv,F.rest.Dt,F.rest.Du⟩
theorem rz{K:Frag}(R:k8 eY K){x:Str}{v:Value}(h:(m7.lookup x).map m6=some (some v)):jK K x=some v:=by
 refine aj (map_eq_some_iff.mp h) ?_;intro u hu hv;have h1:=all_eq_true.mp R.m7 _ (Fe hu);dsimp only at h1;rw [hv] at h1;exact eq_of_beq (and_eq_true_iff.mp h1).1
theorem UD(KX:K.In s.heap)(F:KF w.params K):wU (XX w s) TT where
 Wi:=by kernel_rfl!
 next:=fun h k env hg hb=>kg (fj KX h k) (rz F.rest (by kernel_rfl!)) hg hb
 HM:=fun h k env hg hb=>kg (fj KX h k) (rz F.rest (by kernel_rfl!)) hg hb
 stop:=fun h k env hg hb=>kg (fj KX h k) F.rest.Nb hg hb
end
end
section
variable{eY:Params}{nm:Str}{a c:Addr}{body:List Stmt}{scope:Scope}
theorem Uc:wQ (gU "push").body:=.mk rfl
theorem T3:wN (gU "pop_from").body:=.mk
theorem TV:wM (gU "pop").body:=.mk rfl rfl
theorem Lj:wC (gU "part_count").body:=.mk rfl
theorem Pu:wH (gU "__init__").body:=.mk rfl
theorem QS:wK (gU "__len__").body:=.mk ⟨by kernel_rfl!,by kernel_rfl!,by decide+kernel,by kernel_rfl!,by kernel_rfl!,by kernel_rfl!,by kernel_rfl!,by kernel_rfl!⟩
theorem Vl:wW (gU "__str__").body:=.mk rfl rfl ⟨by kernel_rfl!,by kernel_rfl!,by decide+kernel,by kernel_rfl!,by kernel_rfl!,by kernel_rfl!,by kernel_rfl!,by kernel_rfl!⟩
theorem Ug:(("_Accumulator.":Str)++"__len__")="_Accumulator.__len__":=by kernel_rfl
theorem Uh:(("_Accumulator.":Str)++"__str__")="_Accumulator.__str__":=by kernel_rfl
section
variable{w:World}{s:Shared}{K:Frag}
theorem RM(KX:K.In s.heap)(F:k6 (cut K) a c nm body scope iZ)(R:k8 eY (cut K))(hk:scope.kind=.function)(hco:scope.isCoroutine=false)(hg:scope.isGenerator=false) :
 mJ (XX w s) a 25 (cA (cut K) a) (cg (cut K) a):=by
 have hs:=F.scope';exact⟨i8 KX _ _ F.get,jU.mpr (jH F.get).2,F.data,F.globals,F.builtins,F.aE,by rw [hs];exact hk,by rw [hs];exact hco,by rw [hs];exact hg,⟨c,_,_,_,_,_,F.code,i8 KX _ _ F.o7,jU.mpr (jH F.o7).2,F.cdata,by rw [F.qual];exact F.cname,F.KW,by simp⟩,
  ⟨_,i8 KX _ _ R.cellGet,jU.mpr (jH R.cellGet).2,R.KV⟩,fun h k env hg' hb=>kg (fj KX h k) R.Na hg' hb⟩
theorem Ay(KX:K.In s.heap)(F:k6 (cut K) a c nm body scope iZ)(R:k8 eY (cut K))(hk:scope.kind=.function)(hco:scope.isCoroutine=false)(hg:scope.isGenerator=false)
 (h1:scope.names.lookup ("super":Str)=some .globalImplicit) (h2:scope.names.lookup ("__class__":Str)=some .free):tw (XX w s) a 25 (cA (cut K) a) (cg (cut K) a):=
 ⟨RM KX F R hk hco hg,by rw [F.scope'];exact h1,by rw [F.scope'];exact h2⟩
theorem tT:∀(x y:Str) (c:Addr),([]:List (Str×Addr)).lookup x=some c→([]:List (Str×Addr)).lookup y=some c→x=y:=by intro x y c h;cases h
theorem Cm:∀(x y:Str) (c:Addr),iZ.lookup x=some c→iZ.lookup y=some c→x=y:=by
 intro x y c h1 h2;have key:∀z,iZ.lookup z=some c→z="__class__":=by
  intro z h;rcases u0 h with⟨rfl,_⟩|⟨_,h⟩
  ·rfl
  ·exact nn h
 rw [key x h1,key y h2]
theorem Ii(KX:K.In s.heap)(F:KF w.params K)(hs:s.heap.objs.size≤nB):sZ (XX w s) TT (cut K) (oZ (cut K) aN) where
 base:=⟨K1 F.rest,fj KX,⟨hs⟩,F.rest.xY,by kernel_rfl,F.rest.ue,lH F.fns.lW,by decide,ru KX F.fns.lW⟩
 items:=⟨F.rest.L5,F.rest.Mf,F.rest.tV⟩
 make:=⟨F.rest.makes,F.rest.hasDict,F.rest.Mh,F.rest.Mg⟩
 text:=⟨F.rest.L7,fun h k=>Looks.of_peek (fj KX h k) F.rest.bf,F.rest.size,fun h k env hg hb=>kg (fj KX h k) (rz F.rest (by kernel_rfl!)) hg hb,
  fun h k env hg hb=>kg (fj KX h k) (rz F.rest (by kernel_rfl!)) hg hb⟩
 str:=⟨fun h k env hg hb=>⟨_,kg (fj KX h k) F.rest.M9 hg hb⟩⟩
 htop:=by kernel_rfl!
 acc:=rfl
 push:=by
  refine⟨_,_,_,qg KX F.fns.sr tT (by kernel_rfl!) (by kernel_rfl!) (by kernel_rfl!) (by kernel_rfl!),Uc,F.fns.sr.body',fun x hx=>?_,fun s' a b c Am=>jx KX (F.binds.JA a b c) Am⟩
  show (cA (cut K) 45).scope.names.lookup x=_;rw [F.fns.sr.scope'];simp only [mem_cons,not_mem_nil,or_false] at hx;rcases hx with rfl|rfl|rfl<;>kernel_rfl!
 iO:=by
  refine⟨_,_,_,qg KX F.fns.su tT (by kernel_rfl!) (by kernel_rfl!) (by kernel_rfl!) (by kernel_rfl!),T3,F.fns.su.body',fun x hx=>?_,fun s' a b Am=>jx KX (F.binds.JB a b) Am⟩
  show (cA (cut K) 53).scope.names.lookup x=_;rw [F.fns.su.scope'];simp only [mem_cons,not_mem_nil,or_false] at hx;rcases hx with rfl|rfl|rfl<;>kernel_rfl!
 pop:=by
  refine⟨25,_,_,_,Ay KX F.fns.pX F.rest (by kernel_rfl!) (by kernel_rfl!) (by kernel_rfl!) (by kernel_rfl!) (by kernel_rfl!),qg KX F.fns.pX Cm (by kernel_rfl!) (by kernel_rfl!) (by kernel_rfl!) (by kernel_rfl!),TV,F.fns.pX.body',?_,?_,fun s' a Am=>jx KX (F.binds.JC a) Am⟩
  ·rw [show (cA (cut K) TT.pop).params=_ from F.rest.Tu];kernel_rfl!
  ·rw [show (cA (cut K) TT.pop).scope=_ from F.fns.pX.scope'];kernel_rfl!
 count:=by
  refine⟨25,_,_,_,"self",Ay KX F.fns.lW F.rest (by kernel_rfl!) (by kernel_rfl!) (by kernel_rfl!) (by kernel_rfl!) (by kernel_rfl!),Lj,F.fns.lW.body',?_,F.rest.F1.1,F.rest.F1.2,?_,?_⟩
  ·rw [show (cA (cut K) TT.count).params=_ from F.rest.Tv];kernel_rfl!
  ·rw [show (cA (cut K) TT.count).scope=_ from F.fns.lW.scope'];kernel_rfl!
  ·rw [show (cA (cut K) TT.count).scope=_ from F.fns.lW.scope'];decide+kernel
 init:=by
  refine⟨38,25,_,_,_,Ay KX F.fns.sq F.rest (by kernel_rfl!) (by kernel_rfl!) (by kernel_rfl!) (by kernel_rfl!) (by kernel_rfl!),qg KX F.fns.sq Cm (by kernel_rfl!) (by kernel_rfl!) (by kernel_rfl!) (by kernel_rfl!),F.rest.L6,lH F.fns.sq,Pu,F.fns.sq.body',?_,?_,?_,fun s' a b Am=>jx KX (F.binds.Jz a b) Am⟩
  ·rw [F.rest.Tt];exact⟨_,rfl,rfl⟩
  all_goals
   rw [F.fns.sq.scope'];kernel_rfl!
 E7:=by
  refine⟨68,67,63,_,_,_,QS,F.rest.L8,lH F.fns.pY,qg KX F.fns.pY tT (by kernel_rfl!) (by kernel_rfl!) (by kernel_rfl!) (by kernel_rfl!),F.fns.pY.code,?_,F.fns.pY.body',?_,?_,fun s' a Am=>jx KX (F.binds.JD a) Am⟩
  ·rw [F.fns.pY.qual,Ug];exact DG KX F.fns.Cb (by decide) (vY Hu) (vZ Hu)
  all_goals
   rw [F.fns.pY.scope'];kernel_rfl!
 strm:=by
  refine⟨75,74,70,_,_,_,Vl,F.rest.Mi,lH F.fns.pZ,qg KX F.fns.pZ tT (by kernel_rfl!) (by kernel_rfl!) (by kernel_rfl!) (by kernel_rfl!),F.fns.pZ.code,?_,F.fns.pZ.body',?_,?_,fun s' a Am=>jx KX (F.binds.JE a) Am⟩
  ·rw [F.fns.pZ.qual,Uh];exact DG KX F.fns.Cc (by decide) (vY Hv) (vZ Hv)
  all_goals
   rw [F.fns.pZ.scope'];kernel_rfl!
end
end
noncomputable def bU:b9:=fnOf "law" 211 210
noncomputable def uV:List Stmt:=(iI "law").body
noncomputable def lU:List Stmt:=uV.take 3
noncomputable def fQ:List Stmt:=uV.drop 4
noncomputable def sJ:b9:=fnOf "_law_read" 152 151
noncomputable def eZ:List Stmt:=(iI "_law_read").body.take 4
noncomputable def oE:b9:=fnOf "_parse_varint" 147 146
theorem QI:∃r1 r2 r3 r4 r5:Pos,uV=lU++.Assign [.Name "read" r1] (.Call (.Name "_law_read" r2) [.Name "numbers" r3] [] r4) r5::fQ:=⟨_,_,_,_,_,rfl⟩
theorem Uy:∃q1 q2 q3 q4 q5 q6 q7 q8 q9 ql qm qo:Pos,∃last:Stmt,(q2.endLine==q6.line)=true∧(iI "_law_read").body=eZ++[.Try [.Expr (.Call (.Attribute (.Name "told" q1) "append" q2) [.Call (.Name "_parse_varint" q3) [.Name "hand" q4] [] q5] [] q6) q7] [.ExceptHandler (some (.Name "StopIteration" q8)) none [.Return (some (.Name "told" q9)) ql] qm] [] [] qo,last]:=by
 refine⟨_,_,_,_,_,_,_,_,_,_,_,_,_,?_,rfl⟩;rfl
theorem Wj:∃p1 p2 p3 p4 p5:Pos,∃rest:List Stmt,(iI "_parse_varint").body=.Assign [.Name "b" p1] (.Call (.Name "next" p2) [.Name "iterator" p3] [] p4) p5::rest:=⟨_,_,_,_,_,_,rfl⟩
noncomputable def wJ(k:Nat)(ns:List Int):Prop:=
 ∃(fuel:Nat) (bu:ao) (nums:V) (fY:ao) (σ₂:aa) (m:Nat) (ls:List V) (jq:ao) (σ₃:aa),
  aU (CC k) fuel (aJ bU [(("script":Str),.lst (ns.map V.int))]) lU []=some (.next,bu,[])∧cy (CC k) bu "numbers"=some nums∧nums.plain=true∧
  aU (CC k) fuel (aJ sJ [(("numbers":Str),nums)]) eZ []=some (.next,fY,σ₂)∧fY.vars "told"=some (.lst ls)∧(V.lst ls).plain=true∧(V.lst ls).under 0=true∧cy (CC k) fY "hand"=some (.loc m)∧σ₂[m]?=some (.iter [])∧
  aU (CC k) fuel (bu.set "read" (.lst ls)) fQ []=some (.ret (.bool true),jq,σ₃)
section
variable{w:World}{s:Shared}{K:Frag}
theorem QJ{eY:Params}(KX:K.In s.heap)(F:KF eY K):gJ (XX w s) bU (cg (cut K) 211) (cA (cut K) 211):=
 fy KX F.fns.LZ rfl rfl rfl rfl rfl (bind1 KX F.binds.Jy (ps:=gn "law") (by kernel_rfl!))
theorem Iu(KX:K.In s.heap)(F:KF w.params K)(hg:s.gens=#[])(hs:s.heap.objs.size=nB)(nl:s.heap.NoLimit):aq (XX w s) s where
 keep:=fun a o e Z=>e
 tab:=fun T q m=>by
  have key:∀T,gS T=true→s.heap.get? T=some (tabObj #[]):=fun T h=>by
   simp only [gS,or_eq_true,Nat.beq_eq] at h;rcases h with ((h|h)|h)|h<;>subst h
   ·exact KX _ _ F.tabs.Hj
   ·exact KX _ _ F.tabs.Hl
   ·exact KX _ _ F.tabs.Hg
   ·exact KX _ _ F.tabs.Hh
  have hT:gS T=true:=by
   have:(XX w s).tab T:=mem_map.mpr ⟨_,m,rfl⟩;cases hh:gS T with
   | true=>rfl
   | false=>exact absurd this (jU.mpr hh)
  exact⟨_,key T hT,trivial,fun pos cv e=>by cases e⟩
 os:=rfl
 gens:=.of_eq hg
 size:=le_of_eq hs.symm
 lim:=nl
theorem KP(KX:K.In s.heap)(F:KF w.params K)(hs:s.heap.objs.size≤nB)(k:Nat):bL (XX w s) (CC k) k:=KQ (JI KX F hs) (Il (Ii KX F hs)) k
theorem PR{X:Ctx}{ρ:aB}{h:Heap}:∀{vals:List Value} {ns:List Int},IntsAre vals ns→aC X ρ h vals (ns.map V.int):=fun x=>IntsAre.rec (motive:=fun a b Z=>aC X ρ h a (b.map V.int)) .nil (fun Z Z Z Z Z r=>.cons (.int _ _) r) x
theorem SV(KX:K.In s.heap)(F:KF w.params K){s':Shared}(Am:aq (XX w s) s'):OldK s.heap s'.heap:=by
 have tabs:∀b,(XX w s).tab b→isCodeTable s.heap b∧s.heap.get? b=some (tabObj #[])∧∃ps,s'.heap.get? b=some (tabObj ps):=fun b hb=>by
  refine aj (mem_map.mp hb) ?_;intro hh;obtain⟨T,q⟩:=hh;rintro hm rfl;refine aj ((Am.tab T q hm).ok) ?_;intro ps hp _;have one:∀{c T:Addr},kZ (cut K) c T→K.lookup T=some (tabObj #[])→isCodeTable s.heap T∧s.heap.get? T=some (tabObj #[]):=fun cf ht=>
   ⟨Heap.TableAt.isCodeTable ⟨⟨_,_,i8 KX _ _ cf.get,cf.cls,cf.data,cf.f11⟩,KX _ _ ht⟩,KX _ _ ht⟩
  have hh:isCodeTable s.heap T∧s.heap.get? T=some (tabObj #[]):=by
   have hm':(T,q)∈dG:=hm;simp only [dG,mem_cons,not_mem_nil,or_false,Prod.mk.injEq] at hm';rcases hm' with⟨rfl,_⟩|⟨rfl,_⟩|⟨rfl,_⟩|⟨rfl,_⟩
   ·exact one F.fns.Cb F.tabs.Hj
   ·exact one F.fns.Cc F.tabs.Hl
   ·exact one F.fns.B9 F.tabs.Hg
   ·exact one F.fns.Ca F.tabs.Hh
  exact⟨hh.1,hh.2,ps,hp⟩
 refine⟨fun b o e=>?_,fun b o e=>?_⟩
 ·by_cases hb:(XX w s).tab b
  ·obtain⟨h1,h2,ps,h3⟩:=tabs b hb;obtain rfl:=Option.some.inj (e.symm.trans h2);exact .inr (.inl ⟨h1,rfl,#[],ps,rfl,by rw [h3];simp⟩)
  ·exact .inl (Am.keep b o e hb)
 ·by_cases hb:(XX w s).tab b
  ·obtain⟨h1,h2,ps,h3⟩:=tabs b hb;exact⟨_,h3⟩
  ·exact⟨o,Am.keep b o e hb⟩
theorem F9{sc:Scope}{x:Str}{z:V}(h1:fD sc [(x,V.none)]=true)(hp:z.plain=true):fD sc [(x,z)]=true:=by
 unfold fD at h1 ⊢;simp only [and_eq_true,List.all_cons,List.all_nil,Bool.and_true,or_eq_true,map_cons,map_nil] at h1 ⊢;refine au h1 ?_;clear h1;intro hh;refine au hh ?_;clear hh;intro hh;refine au hh ?_;clear hh;intro hh;refine au hh ?_;clear hh;intro h2 h3;intro h4;intro h5;intro h6;exact⟨⟨⟨⟨h2,h3⟩,.inr hp⟩,h5⟩,h6⟩
set_option maxHeartbeats 1000000 in
theorem QK(KX:K.In s.heap)(F:KF w.params K)(hg:s.gens=#[])(hs:s.heap.objs.size=nB)(nl:s.heap.NoLimit){vals:List Value}{ns:List Int}(hL:s.heap.get? 212=some { cls:=.type "list",data:=.seq vals.toArray })(hI:IntsAre vals ns)
 (run:wJ 10 ns) {E:Value→Shared→Prop} {Q:Value→Shared→Prop} (hQ:∀s',OldK s.heap s'.heap→s'.os=s.os→AllBare s'.gens→Q (.bool true) s'):wpAny (model P w) callerA (call (.ref 211) [.ref 212] []) Q E s:=by
 have Am:=Iu (w:=w) KX F hg hs nl;have CO:=KP (w:=w) KX F (le_of_eq hs) 10;have FL:=QJ (w:=w) KX F;have FR:=UA (w:=w) KX F;have FV:=Wk (w:=w) KX F;have RT:=UD KX F;have Fi:bI (XX w s):=⟨le_of_eq hs⟩;refine CP run ?_;intro fuel bu nums fY σ₂ m ls jq σ₃ e1 e2 Lz e3 e4 e5 e6 e7 e8 e9;refine tY QI ?_;intro r1 r2 r3 r4 r5 hlb;refine Lw Uy ?_;intro q1 q2 q3 q4 q5 q6 q7 q8 q9 ql qm qo last hql hrb;refine LD Wj ?_;intro p1 p2 p3 p4 p5 vL OS;have R0:Rel (XX w s) ⟨[],[]⟩ [] s.heap:=⟨rfl,fun i p m e=>by simp at e,Pairwise.nil,fun a ha=>by simp [lp] at ha,fun a ha=>by simp [fp,lp] at ha,fun a ha=>by simp [fp,lp] at ha⟩
 have rs:aC (XX w s) ⟨[],[]⟩ s.heap [.ref 212] [.lst (ns.map V.int)]:=.cons (.lst ⟨_,hL⟩ (by simp [fp,lp]) (PR hI)) .nil
 have hbind:bU.bind [.lst (ns.map V.int)] none=some [(("script":Str),.lst (ns.map V.int))]:=by
  have:bU.bind=jV ["script"]:=by kernel_rfl!
  show bU.bind _ _=_;rw [this];rfl
 have hok:fD bU.scope [(("script":Str),V.lst (ns.map V.int))]=true:=by
  have hp:(V.lst (ns.map V.int)).plain=true:=by
   show V.bD _=true;rw [eX];intro v hv;refine aj (mem_map.mp hv) ?_;rintro i _ rfl;rfl
  exact F9 (by kernel_rfl!) hp
 refine wpAny_call (yd FL hbind hok (by show (1+claimMargin:Nat)<1000;decide) Am R0 (fun a ha=>by simp at ha) rs (.inl ⟨rfl,rfl⟩) fun env h₁ tk bx G hlt I=>?_)
 have dZ:(callerA.deeper env).depth=302:=rfl;have hun:(callerA.deeper env).units=7:=rfl;have Rm:aT 11 (callerA.deeper env):=⟨rfl,by rw [dZ];decide,by rw [hun];decide⟩
 have hfr:(callerA.deeper env).frames=some [env]:=Around.frames_deeper rfl;have hloc:env.locals=s.heap.objs.size:=by rw [bx];rfl
 have hfl:env.frame=some env.locals:=by rw [bx];rfl
 have kn:bU.scope.names.lookup ("_law_read":Str)=some .globalImplicit:=by kernel_rfl!
 refine codeAny_func ?_;show wpAny _ _ (execs uV env) _ _ _;rw [hlb];refine Gs Fi CO e1 (Rm.less (by decide)) I fun s₁ cu I₁ F₁ hn₁=>?_
 obtain rfl:cu=[]:=by
  have:=I₁.rel.len;cases cu with
  | nil=>rfl
  | cons a b=>simp at this
 refine wpAny_execs_cons (wpAny_mono (UC RT Fi CO FR FV rfl (by rw [←OS];rfl) ?nh ?nu ?hit ?yQ ?nq hql hrb (bs:=[(("numbers":Str),nums)]) ?rB ?rH ?nC ?rF ?bg ?hst e3 e4 e5 e6 e7 e8 Rm hfr hfl rfl (by rw [hloc];rfl) I₁ ?hlr ?yN e2 ?hrd ?yX) (fun f s₂ hf=>?_) fun e s' h=>h)
 case nh=>
  intro m;have:oE.bind=jV ["iterator"]:=by kernel_rfl!
  show oE.bind _ _=_;rw [this];rfl
 case nu=>intro m;kernel_rfl!
 case hit=>kernel_rfl!
 case yQ=>kernel_rfl!
 case nq=>kernel_rfl!
 case rB=>
  have:sJ.bind=jV ["numbers"]:=by kernel_rfl!
  show sJ.bind _ _=_;rw [this];rfl
 case rH=>exact F9 (by kernel_rfl!) Lz
 case nC=>kernel_rfl!
 case rF=>kernel_rfl!
 case bg=>kernel_rfl!
 case hst=>kernel_rfl!
 case hlr=>rw [hn₁];exact kn
 case yN=>exact kg (fj KX _ I₁.aG.keeps) (rz F.rest (by kernel_rfl!)) I₁.en.globals I₁.en.builtins
 case hrd=>rw [hn₁];kernel_rfl!
 case yX=>
  rw [hn₁];have:(aJ bU [(("script":Str),V.lst (ns.map V.int))]).names.lookup ("read":Str)=some .local :=by kernel_rfl!
  rw [this];decide
 obtain⟨nL,N7,I₂,F₂,hn₂⟩:=hf;obtain rfl:=N7.inv;obtain rfl:nL=[]:=by
  have:=I₂.rel.len;cases nL with
  | nil=>rfl
  | cons a b=>simp at this
 refine wpAny_mono ((ud Fi CO fuel).2 e9 (Rm.less (by decide)) I₂) (fun f s₃ hf=>?_) fun e s' h=>h
 obtain⟨QE,N8,I₃,F₃,W2⟩:=hf;refine aj N8.inv ?_;rintro v rfl rv;obtain rfl:=rv.inv;exact hQ s₃ (SV KX F I₃.aG) I₃.aG.os I₃.aG.gens
end
section
variable{w:World}{s:Shared}{K:Frag}
theorem QH(KX:K.In s.heap)(F:KF w.params K){mg:Str→Option Value}(g:s.heap.Ns mainGlobals mg){fa:Addr}(h:mg "law"=some (.ref fa)):fa=211:=by
 refine cY g ?_;clear g;intro o es ep e d _ hf;have h2:=i8 KX _ _ F.rest.Fx;obtain rfl:=Option.some.inj (e.symm.trans h2);have h3:=d.symm.trans F.rest.Fw;have h4:es=jJ (cut K) mainGlobals:=by injection h3
 have h5:=F.rest.QG;rw [←h4,hf,h] at h5;injection h5 with h5
 injection h5
theorem QT{n:Nat}(h:¬((63:Int)<(n:Int))):n≤63:=by lia
end
noncomputable def Lv(p:Params)(x:Str)(t:Nat)(v:Value):DictEntry:=⟨keyHash p x,.str x t,v⟩
noncomputable def o8(p:Params)(n:Nat)(l:List (Str×Nat×Value)):Obj:={ cls:=.type "dict",data:=.dict (l.map fun e=>Lv p e.1 e.2.1 e.2.2).toArray n }
noncomputable def sU(l:List Value):Obj:={ cls:=.type "tuple",data:=.seq l.toArray }
noncomputable def F4:Nat→List (Str×Value)→List (Str×Nat×Value)
 | _,[]=>[]
 | n,e::l=>(e.1,n,e.2)::F4 (n+1) l
noncomputable def JL:List (Str×Nat×Value):=("__name__",1,.str "builtins" 160)::F4 2 (Manifest.builtinsNames.map fun y=>(ofString y.1,bootValue y.2 y.1)).tail
noncomputable def Ct(c:Addr)(x q:Str)(t:Nat)(l n k:Int)(full:Bool)(u:Nat):Obj:=
 {cls:=.type "code",data:=.fields #[.str x t,.str q (t+1),.str "/claim/cut.py" (t+2),.int l 0,.int n 0,.int 0 0,.int k 0,.int 3 0,.ref (c - cond full 5 3),.bool true,.int 181 0,.ref (c - cond full 4 2),.none,cond full (.ref (c - 3)) .none,cond full (.ref (c - 2)) .none,.ref (c - 1),.int u 0,.int l 0,.str "/claim/cut.py" (u+1)] }
noncomputable def RX:Nat→Value
 | 0=>.str "cpy313.bisect" 294
 | 1=>.str "cpy313.dis" 337
 | 2=>.str "law_wa0020_01" 389
 | _=>.str "cpy313.email.header" 194
noncomputable def Dy(c:Addr)(x q:Str)(d:mC)(m:Nat)(df kd:Value)(aE:List (Str×Addr))(ct:Value):Obj:=
 {cls:=.type "function",data:=.func { name:=x,qualname:=q,params:=d.params,body:=.stmts d.body,scope:=d.scope,globals:=mainGlobals,closure:=aE,defaults:=df,kwdefaults:=kd,pyModule:=RX m,code:=.ref c,closureTuple:=ct } }
noncomputable def fO(a:Addr)(x:Str)(t:Nat)(l n k:Int)(full:Bool)(u:Nat)(m:Nat)(df kd:Value)(F:Frag):Frag:=
 (a,Dy (a - 1) x x (iI x) m df kd [] .none)::(a - 1,Ct (a - 1) x x t l n k full u)::F
noncomputable def nM(a:Addr)(x:Str)(t:Nat)(l n:Int)(u:Nat)(df:Value)(aE:List (Str×Addr))(ct:Value)(F:Frag):Frag:=
 (a,Dy (a - 1) x ("_Accumulator."++x) (gU x) 3 df .none aE ct)::(a - 1,Ct (a - 1) x ("_Accumulator."++x) t l n 0 true u)::F
noncomputable def Rn:List (Str×Nat×Value):=[("__name__",165,(.str "law_wa0020_01" 389)),("__doc__",166,.none),("__package__",167,.none),("__loader__",168,(.builtin "__main__.__loader__#opaque")),("__spec__",169,.none),("__annotations__",170,(.ref 6)),("__builtins__",171,(.ref 4)),("__file__",173,(.str "/claim/cut.py" 172)),("__cached__",174,.none),("_wall",193,(.ref 21)),("EMPTYSTRING",197,(.str "" 196)),("_Accumulator",293,(.ref 101)),("insort_right",308,(.ref 114)),("bisect_right",322,(.ref 123)),("bisect_left",336,(.ref 132)),("COMPILER_FLAG_NAMES",369,(.ref 133)),("pretty_flags",379,(.ref 140)),("_parse_varint",388,(.ref 147)),("_law_read",396,(.ref 152)),("_law_marks",402,(.ref 157)),("_law_met",412,(.ref 164)),("_law_even",418,(.ref 169)),("_law_ring",424,(.ref 174)),("_law_makers",430,(.ref 179)),("_law_answer",436,(.ref 184)),("_law_other",451,(.ref 191)),("_law_pieces",457,(.ref 196)),("_law_filled",463,(.ref 201)),("_law_taken",469,(.ref 206)),("law",475,(.ref 211))]
noncomputable def K8:List (Str×Nat×Value):=[("__module__",205,(.str "cpy313.email.header" 194)),("__firstlineno__",209,(.int 6 208)),("__init__",219,(.ref 38)),("push",228,(.ref 45)),("pop_from",238,(.ref 53)),("pop",246,(.ref 61)),("__len__",253,(.ref 68)),("__str__",260,(.ref 75)),("reset",268,(.ref 83)),("is_onlyws",275,(.ref 90)),("part_count",283,(.ref 98)),("__static_attributes__",285,(.ref 99)),("__dict__",288,(.ref 102)),("__weakref__",290,(.ref 103)),("__doc__",291,.none)]
noncomputable def Dr:Nat→Nat→List Str→List DictEntry
 | _,_,[]=>[]
 | i,t,x::l=>⟨i,.int i t,.str x (t+1)⟩::Dr (2*i) (t+2) l
noncomputable def UG(p:Params):Frag:=
 [(0,o8 p 159 JL),(2,{ cls:=.none,data:=.dict #[] }),(3,o8 p 30 Rn),(4,{ cls:=.type "module",dict:=some 0 }),(25,{ cls:=.type "cell",data:=.cell (some (.ref 101)) }),
  (30,sU [.int 0 210]),(46,sU [.int 0 229]),(63,tabObj #[]),(70,tabObj #[]),(176,tabObj #[]),(186,tabObj #[]),(100,o8 p 5 K8),
  (101,{ cls:=.type "type",data:=.cls { name:="_Accumulator",bases:=[.type "list"],mro:=[.ref 101,.type "list",.type "object"],ns:=100,qualname:="_Accumulator" },slots:=#[some (.ref 22),none,some (.str "_Accumulator" 198),some (.str "_Accumulator" 206),some (.builtin "list.__new__"),some (.bool true)] }),
  (106,sU [.int 0 296,.none]),(107,o8 p 1 [("key",297,.none)]),(115,sU [.int 0 309,.none]),(116,o8 p 1 [("key",310,.none)]),(124,sU [.int 0 323,.none]),(125,o8 p 1 [("key",324,.none)]),
  (133,{ cls:=.type "dict",data:=.dict (Dr 1 339 ["OPTIMIZED","NEWLOCALS","VARARGS","VARKEYWORDS","NESTED","GENERATOR","NOFREE","COROUTINE","ITERABLE_COROUTINE","ASYNC_GENERATOR"]).toArray 10 })]
noncomputable def pG(p:Params):Frag:=
 fO 114 "insort_right" 298 40 4 1 true 306 0 (.ref 106) (.ref 107) <|
 fO 123 "bisect_right" 311 46 4 1 true 320 0 (.ref 115) (.ref 116) <|
 fO 132 "bisect_left" 325 66 4 1 true 334 0 (.ref 124) (.ref 125) <|
 fO 140 "pretty_flags" 370 88 1 0 true 377 1 .none .none <|
 fO 147 "_parse_varint" 380 100 1 0 true 386 1 .none .none <|
 fO 152 "_law_read" 391 109 1 0 false 394 2 .none .none <|
 fO 157 "_law_marks" 397 119 1 0 false 400 2 .none .none <|
 fO 164 "_law_met" 403 123 2 0 true 410 2 .none .none <|
 fO 169 "_law_even" 413 128 2 0 false 416 2 .none .none <|
 fO 174 "_law_ring" 419 130 2 0 false 422 2 .none .none <|
 fO 179 "_law_makers" 425 135 3 0 false 428 2 .none .none <|
 fO 184 "_law_answer" 431 145 4 0 false 434 2 .none .none <|
 fO 191 "_law_other" 437 161 3 0 true 449 2 .none .none <|
 fO 196 "_law_pieces" 452 174 3 0 false 455 2 .none .none <|
 fO 201 "_law_filled" 458 176 2 0 false 461 2 .none .none <|
 fO 206 "_law_taken" 464 182 4 0 false 467 2 .none .none <|
 fO 211 "law" 470 190 1 0 false 473 2 .none .none <|
 nM 38 "__init__" 211 8 2 217 (.ref 30) iZ (.ref 31) <|
 nM 45 "push" 220 12 3 226 .none [] .none <|
 nM 53 "pop_from" 230 15 2 236 (.ref 46) [] .none <|
 nM 61 "pop" 239 20 1 244 .none iZ (.ref 54) <|
 nM 68 "__len__" 247 25 1 251 .none [] .none <|
 nM 75 "__str__" 254 28 1 258 .none [] .none <|
 nM 98 "part_count" 276 37 1 281 .none iZ (.ref 91) <|
 UG p
noncomputable def uD:List Addr:=[114,113,123,122,132,131,140,139,147,146,152,151,157,156,164,163,169,168,174,173,179,178,184,183,191,190,196,195,201,200,206,205,211,210,38,37,45,44,53,52,61,60,68,67,75,74,98,97,0,2,3,4,25,30,46,63,70,176,186,100,101,106,107,115,116,124,125,133]
noncomputable def view:Program:={ P with main:={ P.main with body:=[0,2,3,9,10,11,13,14,15,16,17,18,19,20,21,22,23,24].filterMap fun i=>P.main.body[i]? } }
set_option maxHeartbeats 0 in
theorem N3(p:Params):KF p (pG p):=by
 refine⟨?_,?_,?_,?_⟩
 ·constructor<;>constructor<;>(first|kernel_rfl!|((repeat intro _);kernel_rfl!))
 ·constructor<;>(first|kernel_rfl!|((repeat intro _);kernel_rfl!))
 ·constructor<;>(first|kernel_rfl!|(constructor<;>kernel_rfl!)|((repeat intro _);kernel_rfl!))
 ·constructor<;>(first|kernel_rfl!|((repeat intro _);kernel_rfl!))
end Mine
end
section
open PySem PySem.W PySem.Calls PyProof.Rows PySem.W.X
namespace Mine
section
set_option maxHeartbeats 0
theorem row_said:PySem.Challenge.rw_wa0020_01.wellSaid=true:=by kernel_rfl
noncomputable abbrev UJ:=PySem.Challenge.rw_wa0020_01.row
noncomputable def u7:List Str:=["_Accumulator","insort_right","bisect_right","bisect_left","COMPILER_FLAG_NAMES"]
noncomputable def AI(s:Shared):Bool:=xlAt view [] s&&recOk (RowW.records UJ.toRowW) s
noncomputable abbrev LP(b:Bool)(w:World):Prop:=(fencedOpening treeTable P w 2590).map (fun s₀=>(topFrom treeTable P (w.withFollow "special-get-raises" b) 2590 s₀).map fun s=>(openSeen view u7 (importedModules P.main.body) AI true s,obsZ uD s))=some (some (openGood view u7,valZ pG 212 476 (w.withFollow "special-get-raises" b)))
theorem QM(w:World):LP false w:=by kernel_rfl
theorem QN(w:World):LP true w:=by kernel_rfl
theorem left:LeftO P view u7 AI (obsZ uD) (valZ pG 212 476) 2590:=
 LeftO.of_split "special-get-raises" fun w=>by
  obtain⟨s₀,a,b0⟩:=map_eq_some_iff.mp (QM w);obtain⟨s₁,a1,b1⟩:=map_eq_some_iff.mp (QN w);obtain rfl:=Option.some.inj (a.symm.trans a1);rw [a];exact congrArg some (Prod.ext b0 b1)
end
end Mine
end
section
open PySem PySem.W PySem.Calls PyProof.Rows
namespace Mine
theorem aK{α β:Type}{x:Option α}{f:α→Option β}{a:α}{r:Option β}(h:x=some a)(h2:f a=r):x.bind f=r:=h▸h2
theorem cS{α β:Type}{x:Option α}{f:α→β}{a:α}{b:β}(h:x=some a)(h2:f a=b):x.map f=some b:=h▸congrArg some h2
theorem gv{a b:Bool}(h:(a&&b)=true):a=true∧b=true:=and_eq_true_iff.mp h
theorem QO{α:Type}{l:List α}(h:l.length=3):∃x y z,l=[x,y,z]:=by
 cases l with
 | nil=>cases h
 | cons x l=>refine fq (uW (Nat.succ.inj h)) ?_;rintro y z rfl;exact⟨x,y,z,rfl⟩
noncomputable def eU:Expr:=.List [] ⟨0,0,0,0⟩
noncomputable def sN(l:List Stmt)(n:Nat):Stmt:=(l[n]?).getD (.Pass ⟨0,0,0,0⟩)
noncomputable def eN(l:List Expr)(n:Nat):Expr:=(l[n]?).getD eU
noncomputable def aW(s:Stmt):List Stmt:=qD (sX (sW [] (fun Z b Z Z=>b) s) (fun Z b Z Z=>b) s) (fun Z Z b Z Z=>b) s
noncomputable def iS(s:Stmt):List Stmt:=qD (sX (sW [] (fun Z Z b Z=>b) s) (fun Z Z b Z=>b) s) (fun Z Z Z b Z=>b) s
noncomputable def bR(s:Stmt):Expr:=qD (sX (sW eU (fun t Z Z Z=>t) s) (fun t Z Z Z=>t) s) (fun t Z Z Z Z=>t) s
noncomputable def br(s:Stmt):Expr:=qD (qC (oA (AV (AQ eU (fun e Z=>e) s) (fun e Z=>e.getD eU) s) (fun Z Z e Z=>e) s) (fun Z e Z=>e) s) (fun Z i Z Z Z=>i) s
noncomputable def jE:Expr→Expr:=oB eU fun e Z Z Z=>e
noncomputable def gf:Expr→Expr:=oB eU fun Z g Z Z=>g.head?.elim eU (·.target)
noncomputable def qQ:Expr→List Expr:=oB [] fun Z g Z Z=>g.head?.elim [] (·.ifs)
noncomputable def jF:Expr→Expr:=oB eU fun Z g Z Z=>g.head?.elim eU (·.iter)
noncomputable def FZ:Scope:={ kind:=.function,names:=[],isGenerator:=false,isCoroutine:=false,more:=[] }
noncomputable def dJ:Expr→Scope:=oB FZ fun Z Z s Z=>s
noncomputable def bh(e:Expr):List Expr:=gu (we (wc (mj (AU (mq (AR (jB (AW [] (fun Z a Z=>[a]) e) (fun a b Z=>[a,b]) e) (fun a b c Z=>[a,b,c]) e) (fun es Z Z=>es) e) (fun es Z=>es) e) (fun l Z r Z=>[l,r]) e) (fun Z es Z=>es) e)
 (fun l Z rs Z=>l::rs) e) (fun Z as Z Z=>as) e
noncomputable abbrev nat(n:Nat):V:=.int (n:Int)
noncomputable def wv(W:Nat→Nat):V:=.lst [nat (W 0),nat (W 1),nat (W 2),nat (W 3),nat (W 4)]
noncomputable def iM:b9:=fnOf "_law_met" 164 163
noncomputable def FD:List Stmt:=fnBody "_law_met"
section
variable{b:List Stmt}{R:Option (Fl×ao×aa)}{fv r:V}{vs:List V}
variable{C:Calls}{n:Nat}{me az:ao}{st:Stmt}{e:Expr}{σ σ' bA:aa}{v w:V}
noncomputable def mS(s:Stmt):Expr:=qC (oA eU (fun t Z Z Z=>t) s) (fun ts Z Z=>v1 eU id ts) s
noncomputable def EH:Stmt→Bool:=qC false fun ts Z Z=>v1 false (eS false fun Z Z=>true) ts
noncomputable def isIf:Stmt→Bool:=sW false fun Z Z Z Z=>true
noncomputable def EJ:Stmt→Bool:=qD false fun Z Z Z Z Z=>true
noncomputable def Qk:Stmt→Bool:=sX false fun Z Z Z Z=>true
noncomputable def Qh:Stmt→Bool:=AV false fun e Z=>e.isSome
noncomputable def Qa:Stmt→Bool:=AQ false fun e Z=>gu false (fun Z Z Z Z=>true) e
noncomputable def Cd:Expr→Str:=gu "" fun f Z Z Z=>eS "" (fun x Z=>x) f
noncomputable def PZ(e:Expr):Bool:=(lz e).isSome
noncomputable def rX:Expr→Expr:=gu eU fun Z Z w Z=>(rW w).elim eU (·.2)
noncomputable def PY:Expr→Bool:=gu false fun f as w Z=>eS false (fun Z Z=>(rW w).elim false fun k=>decide (k.1=("key":Str))&&!as.isEmpty) f
noncomputable def rT:Expr→Bool:=oB false fun Z gs Z Z=>v1 false (fun g=>decide (g.is_async=0)) gs
theorem dO(h:EH st=true)(he:ak C n me (br st) σ=some (v,σ'))(ha:iA me (mS st) v=some az):aZ C (n+1) me st σ=some (.next,az,σ'):=by
 refine bG (uO bF h) ?_;rintro _ e p rfl h;refine aj (i1 bF h) ?_;rintro t rfl h;refine bK (jh bF h) ?_;rintro x q rfl -;show (ak C n me e σ).bind _=_;exact aK he (cS ha rfl)
theorem cL{b:Bool}(h:isIf st=true)(ht:aX C n me (bR st) σ=some (b,σ'))(hb:aU C n me (if b then aW st else iS st) σ'=R):aZ C (n+1) me st σ=R:=by
 refine fu (O9 bF h) ?_;rintro t x y p rfl -;exact aK (x:=aX C n me t σ) ht (by cases b<;>exact hb)
theorem Gx{items:List V}(h:EJ st=true)(hen:(!fP C me (br st)||ez (bR st))=true)(hi:dD (ak C n) C me (br st) σ=some (items,σ'))
 (hb:m5 (aU C n) (bR st) (aW st) (iS st) items me σ'=R):aZ C (n+1) me st σ=R:=by
 refine CJ (O8 bF h) ?_;rintro t i x y p rfl -;exact (if_pos hen).trans (aK hi hb)
theorem Al(h:Qk st=true)(hb:gI (aU C n) (aX C n) (bR st) (aW st) (iS st) n me σ=R):aZ C (n+1) me st σ=R:=by
 refine fu (Pe bF h) ?_;rintro t x y p rfl -;exact hb
theorem gF(h:Qh st=true)(he:ak C n me (br st) σ=some (v,σ')):aZ C (n+1) me st σ=some (.ret v,me,σ'):=by
 refine bK (Pd bF h) ?_;rintro o p rfl h;refine aA (isSome_iff_exists.mp h) ?_;rintro e rfl;exact cS (x:=ak C n me e σ) he rfl
theorem n7(h:Qa st=true)(he:ak C n me (br st) σ=some (.none,σ')):aZ C (n+1) me st σ=some (.next,me,σ'):=by
 refine bK (O7 bF h) ?_;rintro o p rfl h;refine fu (pK bF h) ?_;rintro f as w q rfl -;show (ak C n me (.Call f as w q) σ).bind _=_;exact aK he rfl
theorem aF(h:b.isEmpty=false)(he:aZ C n me (sN b 0) σ=some (.next,az,σ'))(hr:aU C n az (b.drop 1) σ'=R):aU C (n+1) me b σ=R:=by
 cases b with
 | nil=>cases h
 | cons s r=>exact aK (x:=aZ C n me s σ) he hr
theorem gD(h:b.isEmpty=false)(he:aZ C n me (sN b 0) σ=some (.ret v,az,σ')):aU C (n+1) me b σ=some (.ret v,az,σ'):=by
 cases b with
 | nil=>cases h
 | cons s r=>exact aK (x:=aZ C n me s σ) he rfl
theorem bC(h:b.isEmpty=true):aU C (n+1) me b σ=some (.next,me,σ):=by
 cases b with
 | nil=>rfl
 | cons s r=>cases h
theorem cN(h:PZ e=true)(hf:cy C me (Cd e)=some fv)(ha:b7 (ak C (n+1)) me (bh e) σ=some (vs,σ'))(hc:C.call fv vs none σ'=some (r,bA)):ak C (n+2) me e σ=some (r,bA):=by
 refine aA (isSome_iff_exists.mp h) ?_;intro hh;obtain⟨x,p,as,q⟩:=hh;intro h;obtain rfl:=xE h;show (ak C (n+1) me (.Name x p) σ).bind _=_;exact aK (cS (x:=cy C me x) hf rfl) (aK ha hc)
theorem sH{kv:V}{σ₁:aa}(h:PY e=true)(hf:cy C me (Cd e)=some fv)(ha:b7 (ak C (n+1)) me (bh e) σ=some (vs,σ'))(hk:ak C (n+1) me (rX e) σ'=some (kv,bA))(hc:C.call fv vs (some kv) bA=some (r,σ₁)):ak C (n+2) me e σ=some (r,σ₁):=by
 refine fu (pK bF h) ?_;rintro _ as w q rfl h3;refine bK (jh bF h3) ?_;rintro x p rfl h4;clear h h3;cases e:rW w with
 | none=>rw [e] at h4;exact ff h4
 | some k=>
  rw [e] at h4;refine au (gv h4) ?_;intro h1 h2;refine aA (EZ e) ?_;rintro kp rfl;show (if k.1=("key":Str)∧as.isEmpty=false∧(oN (.Name x p)).isNone=true then (ak C (n+1) me (.Name x p) σ).bind _ else none)=_
  exact (if_pos ⟨of_decide_eq_true h1,by simpa using h2,rfl⟩).trans (aK (cS (x:=cy C me x) hf rfl) (aK ha (aK hk hc)))
end
section
variable{α:Type}{t:Expr}{l us:List V}{k:Nat}{a:Addr}{f:b9}{key:Option V}{bs:List (Str×V)}
variable{C:Calls}{n:Nat}{me az:ao}{st:Stmt}{e:Expr}{σ σ' bA:aa}{v w:V}
theorem Lg{g:α→V}{elt:Expr}{ifs:List Expr}(p:α→Bool)(f:α→V)(E:α→ao)(L:List α)
 (ha2:∀a∈L,∀b∈L,cM (E b) t (g a)=some (E a)) (ht:∀a∈L,ou (aX C n) (E a) ifs σ=some (p a,σ)) (he:∀a∈L,p a=true→ak C n (E a) elt σ=some (f a,σ)) (hp:∀a∈L,p a=true→(f a).plain=true) :
 ∀(l:List α) (me:ao),(∀a∈l,a∈L)→(∀a∈L,cM me t (g a)=some (E a))→∃az,mW (aX C n) (lA (ak C n) (aX C n) C elt []) t ifs (l.map g) me σ=some ((l.filter p).map f,az,σ):=by
 intro l
 induction l with
 | nil=>intro me _ _;exact⟨me,rfl⟩
 | cons a r rc=>
  intro me hL ha;refine aA (rc (E a) (fun b hb=>hL b (mem_cons_of_mem _ hb)) (fun b hb=>ha2 b hb a (hL a mem_cons_self))) ?_;intro az ih;have hm:=hL a mem_cons_self;refine⟨az,?_⟩;refine aK (ha a hm) (aK (ht a hm) ?_);cases hq:p a with
  | true=>have e2:lA (ak C n) (aX C n) C elt [] (E a) σ=some ([f a],E a,σ):=aK (he a hm hq) (if_pos (hp a hm hq));rw [List.filter_cons_of_pos hq];exact aK ((if_pos rfl).trans e2) (cS ih rfl)
  | false=>
   rw [List.filter_cons_of_neg (by rw [hq];decide)]
   exact aK (if_neg Bool.false_ne_true) (cS ih rfl)
theorem Gw{l:List α}{g:α→V}(p:α→Bool)(f:α→V)(E:α→ao)(h:rT e=true)(hg:((!fP C me (jF e)||ez (gf e))&&i7 me (dJ e))=true)
 (hi:dD (ak C n) C me (jF e) σ=some (l.map g,σ')) (ha:∀a∈l,cM (eW (dJ e) me) (gf e) (g a)=some (E a)) (ha2:∀a∈l,∀b∈l,cM (E b) (gf e) (g a)=some (E a))
 (ht:∀a∈l,ou (aX C n) (E a) (qQ e) σ'=some (p a,σ')) (he:∀a∈l,p a=true→ak C n (E a) (jE e) σ'=some (f a,σ')) (hp:∀a∈l,p a=true→(f a).plain=true) (hl:l.length≤sizeLine) :
 ak C (n+1) me e σ=some (.lst ((l.filter p).map f),σ'):=by
 refine fu (Et bF h) ?_;rintro elt gs sc q rfl h2;refine aj (i1 bF h2) ?_;intro hh;obtain⟨t,it,ifs,a⟩:=hh;rintro rfl h3;obtain rfl:a=0:=of_decide_eq_true h3;refine au (gv hg) ?_;intro h4 h5;refine aA (Lg (C:=C) (n:=n) (σ:=σ') p f E l ha2 ht he hp l (eW sc me) (fun Z h=>h) ha) ?_;intro az hc;show (if decide ((0:Int)=0)&&List.all ([]:List Comprehension) (fun g=>decide (g.is_async=0))&&(!fP C me it||ez t)&&i7 me sc then (dD (ak C n) C me it σ).bind _ else none)=_
 refine (if_pos (and_eq_true_iff.mpr ⟨and_eq_true_iff.mpr ⟨rfl,h4⟩,h5⟩)).trans (aK hi (aK hc (if_pos ?_)));rw [length_map];exact le_trans (List.length_filter_le _ _) hl
theorem Ai{l:List α}{g:α→V}(f:α→V)(E:α→ao)(h:rT e=true)(hg:((!fP C me (jF e)||ez (gf e))&&i7 me (dJ e))=true)
 (hi:dD (ak C n) C me (jF e) σ=some (l.map g,σ')) (ha:∀a∈l,cM (eW (dJ e) me) (gf e) (g a)=some (E a)) (ha2:∀a∈l,∀b∈l,cM (E b) (gf e) (g a)=some (E a))
 (ht:(qQ e).isEmpty=true) (he:∀a∈l,ak C n (E a) (jE e) σ'=some (f a,σ')) (hp:∀a∈l,(f a).plain=true) (hl:l.length≤sizeLine) :
 ak C (n+1) me e σ=some (.lst (l.map f),σ'):=by
 have:=Gw (fun Z=>true) f E h hg hi ha ha2 (fun a Z=>by rw [isEmpty_iff.mp ht];rfl) (fun a ha Z=>he a ha) (fun a ha Z=>hp a ha) hl
 rw [List.filter_eq_self.mpr (fun Z Z=>rfl)] at this;exact this
theorem M3{g:α→V}{ex:ao→List Stmt→aa→Option (Fl×ao×aa)}{body orelse:List Stmt}(Inv:List α→ao→aa→Prop){L:List α}
 (hb:∀done a rest me σ,L=done++a::rest→Inv done me σ→∃gm cG σ2,cM me t (g a)=some gm∧ex gm body σ=some (.next,cG,σ2)∧Inv (done++[a]) cG σ2) :
 ∀(l done:List α) me σ,L=done++l→Inv done me σ→∃cG σ2,Inv L cG σ2∧m5 ex t body orelse (l.map g) me σ=ex cG orelse σ2:=by
 intro l
 induction l with
 | nil=>intro done me σ hL hI;exact⟨me,σ,by rw [hL,append_nil];exact hI,rfl⟩
 | cons a r rc=>
  intro done me σ hL hI;refine dw (hb done a r me σ hL hI) ?_;intro gm cG σ2 h1 h2 h3;obtain⟨RK,σ3,h4,h5⟩:=rc (done++[a]) cG σ2 (by rw [hL];simp) h3
  refine⟨RK,σ3,h4,?_⟩;exact aK h1 (aK h2 h5)
theorem iP{g:α→V}{L:List α}(Inv:List α→ao→aa→Prop)(h:EJ st=true)(hen:(!fP C me (br st)||ez (bR st))=true)(hi:dD (ak C (n+1)) C me (br st) σ=some (L.map g,σ'))
 (hel:(iS st).isEmpty=true) (h0:Inv [] me σ')
 (hb:∀done a rest me σ,L=done++a::rest→Inv done me σ→∃gm cG σ2,cM me (bR st) (g a)=some gm∧aU C (n+1) gm (aW st) σ=some (.next,cG,σ2)∧Inv (done++[a]) cG σ2) :
 ∃cG σ2,Inv L cG σ2∧aZ C (n+2) me st σ=some (.next,cG,σ2):=by
 refine bK (M3 (ex:=aU C (n+1)) (orelse:=iS st) Inv hb L [] me σ' rfl h0) ?_;intro cG σ2 h1 h2;exact⟨cG,σ2,h1,Gx h hen hi (h2.trans (bC hel))⟩
noncomputable def Aa(C:Calls)(me:ao)(e:Expr):Bool:=match lz e with
 | some (f,_)=>!kG (cy C me f) "range"&&!kG (cy C me f) "enumerate"
 | none=>true
theorem Up{u:V}(h:Aa C me e=true)(he:ak C n me e σ=some (u,σ'))(hs:vO u=some l)(hl:l.length<2^20)(hp:V.bD l=true):dD (ak C n) C me e σ=some (l,σ'):=by
 have e1:vH (ak C n) me e σ=some (l,σ'):=by
  show (ak C n me e σ).bind _=_;rw [he];show (vO u).bind _=_;rw [hs];exact if_pos ⟨hl,hp⟩
 unfold Aa at h;unfold dD;cases hc:lz e with
 | none=>exact e1
 | some r=>
  rw [hc] at h;refine au (and_eq_true_iff.mp h) ?_;intro h1 h2;refine (if_neg fun w=>?_).trans ((if_neg fun w=>?_).trans e1)
  ·rw [w] at h1;exact ff h1
  ·rw [w] at h2;exact ff h2
theorem g8(h:Aa C me e=true)(he:ak C n me e σ=some (.lst l,σ'))(hl:l.length<2^20)(hp:V.bD l=true):dD (ak C n) C me e σ=some (l,σ'):=Up h he rfl hl hp
theorem lF(n:Nat)(σ:aa)(i:Int):cD σ.length σ (.int i)=(.int i,σ):=by
 unfold cD;rw [take_length];show (if _ then (V.int i,σ) else (V.int i,σ))=_
 exact ite_self _
theorem x7(σ:aa)(i:Bool):cD σ.length σ (.bool i)=(.bool i,σ):=by
 unfold cD;rw [take_length];show (if _ then (V.bool i,σ) else (V.bool i,σ))=_
 exact ite_self _
theorem ME(σ:aa)(n:Nat)(h:n=σ.length):cD n σ .none=(.none,σ):=by
 subst h;unfold cD;rw [take_length];show (if _ then (V.none,σ) else (V.none,σ))=_
 exact ite_self _
theorem gC(hf:(k9.find? fun f=>f.addr==a)=some f)(hb:f.bind us key=some bs)(ho:fD f.scope bs=true)
 (hx:aU (CC k) 100 (aJ f bs) f.body σ=some (.ret v,az,σ')):(CC (k+1)).call (.base a) us key σ=some (cD σ.length σ' v):=by
 show j7 TT (CC k) (.base a) us key σ=_;unfold j7;show (match (k9.find? fun f=>f.addr==a) with
  | some f=>uv (CC k) TT.fuel f us key σ
  | none=>_)=_
 rw [hf];exact aK hb ((if_pos ho).trans (aK hx rfl))
theorem Um(hf:(k9.find? fun f=>f.addr==a)=some f)(hb:f.bind us key=some bs)(ho:fD f.scope bs=true)
 (hx:aU (CC k) 100 (aJ f bs) f.body σ=some (.next,az,σ')):(CC (k+1)).call (.base a) us key σ=some (cD σ.length σ' .none):=by
 show j7 TT (CC k) (.base a) us key σ=_;unfold j7;show (match (k9.find? fun f=>f.addr==a) with
  | some f=>uv (CC k) TT.fuel f us key σ
  | none=>_)=_
 rw [hf];exact aK hb ((if_pos ho).trans (aK hx rfl))
end
theorem S5:∀(n a b:Nat),a<n→a||| b=(a^^^b)+(a&&& b):=by
 intro n
 induction n with
 | zero=>intro a b h;exact absurd h (not_lt_zero _)
 | succ n rc=>
  intro a b h
  by_cases h0:a=0
  ·subst h0;simp
  have ih:=rc (a/2) (b/2) (lt_of_lt_of_le (Nat.div_lt_self (Nat.pos_of_ne_zero h0) (by decide)) (Nat.le_of_lt_succ h))
  have d1:=Nat.or_div_two (a:=a) (b:=b);have d2:=Nat.xor_div_two (a:=a) (b:=b);have d3:=Nat.and_div_two (a:=a) (b:=b);have m1:=Nat.or_mod_two_pow (a:=a) (b:=b) (n:=1);have m2:=Nat.xor_mod_two_pow (a:=a) (b:=b) (n:=1);have m3:=Nat.and_mod_two_pow (a:=a) (b:=b) (n:=1);have e:a%2||| b%2=(a%2^^^b%2)+(a%2&&& b%2):=by
   rcases Nat.mod_two_eq_zero_or_one a with h1|h1<;>rcases Nat.mod_two_eq_zero_or_one b with h2|h2<;>rw [h1,h2]<;>decide
  rw [←div_add_mod (a||| b) 2,←div_add_mod (a^^^b) 2,←div_add_mod (a&&& b) 2,d1,d2,d3,ih,show (a||| b)%2=_ from m1,show (a^^^b)%2=_ from m2,show (a&&& b)%2=_ from m3]
  show _+(a%2||| b%2)=(_+(a%2^^^b%2))+(_+(a%2&&& b%2))
  rw [e,Nat.mul_add,Nat.add_add_add_comm]
theorem tF(a b:Nat):Builtin.bitAnd (a:Int) (b:Int)=((a&&& b:Nat):Int):=by
 unfold Builtin.bitAnd;rw [decide_eq_true (natCast_nonneg a),decide_eq_true (natCast_nonneg b)];rfl
theorem not_not(x:Int):Builtin.bitNot (Builtin.bitNot x)=x:=by unfold Builtin.bitNot;lia
theorem zY(a b:Nat):Builtin.bitOr (a:Int) (b:Int)=((a||| b:Nat):Int):=by
 unfold Builtin.bitOr Builtin.bitAnd;rw [decide_eq_false (by unfold Builtin.bitNot;lia),decide_eq_false (by unfold Builtin.bitNot;lia)]
 simp only [not_not];rfl
theorem A0(a b:Nat):Builtin.bitXor (a:Int) (b:Int)=((a^^^b:Nat):Int):=by
 unfold Builtin.bitXor;rw [zY,tF,S5 (a+1) a b (by lia)]
 lia
noncomputable def cH(W:Nat→Nat)(l:List Nat):Nat:=l.foldl (fun a j=>a^^^W j) 0
noncomputable def sub(l:List Nat):V:=.lst (l.map nat)
theorem RL(W:Nat→Nat)(l:List Nat)(j:Nat):cH W (l++[j])=cH W l^^^W j:=by simp [cH]
theorem gT{P:Nat→Prop}{n:Nat}(h:∀j<n,P j)(hn:P n):∀j<n+1,P j:=fun j hj=>(Nat.lt_succ_iff_lt_or_eq.mp hj).elim (h j) fun e=>e▸hn
theorem b8{P:Nat→Prop}(h0:P 0)(h1:P 1)(h2:P 2)(h3:P 3)(h4:P 4):∀j<5,P j:=gT (gT (gT (gT (gT (fun Z h=>absurd h (not_lt_zero _)) h0) h1) h2) h3) h4
theorem cW(l:List Nat):(sub l).plain=true:=by
 show V.bD _=true;rw [eX];intro v hv;refine aj (mem_map.mp hv) ?_;rintro i _ rfl;rfl
noncomputable def jo(l:List Nat)(W:Nat→Nat):List (Str×V):=[(("streets":Str),sub l),(("ways":Str),wv W)]
theorem FE(k:Nat)(W:Nat→Nat)(l:List Nat)(hl:∀j∈l,j<5)(hL:l.length<2^20)(σ:aa):(CC (k+1)).call (.base 164) [sub l,wv W] none σ=some (nat (cH W l),σ):=by
 obtain⟨tail,nC,h⟩:∃tail,True∧aZ (CC k) 98 (aJ iM (jo l W++[(("whole":Str),nat 0)])) (sN (FD.drop 1) 0) σ=some (.next,aJ iM (jo l W++[(("whole":Str),nat (cH W l))]++tail),σ):=by
  obtain⟨cG,σ2,⟨rfl,tail,_,rfl⟩,h⟩:=iP (C:=CC k) (n:=96) (st:=sN (FD.drop 1) 0) (me:=aJ iM (jo l W++[(("whole":Str),nat 0)])) (σ:=σ) (σ':=σ) (g:=nat) (L:=l)
   (fun done me s=>s=σ∧∃tail:List (Str×V),(tail=[]∨∃u,tail=[(("street":Str),u)])∧me=aJ iM (jo l W++[(("whole":Str),nat (cH W done))]++tail))
   (by kernel_rfl!) (by kernel_rfl!) (g8 (by kernel_rfl!) (by kernel_rfl!) (by simpa using hL) (cW l)) (by kernel_rfl!) ⟨rfl,[],.inl rfl,rfl⟩
   (fun done j rest me s hL' hI=>by
    obtain⟨rfl,tail,ht,rfl⟩:=hI;have hj:j<5:=hl j (by rw [hL'];simp)
    refine⟨aJ iM (jo l W++[(("whole":Str),nat (cH W done))]++[(("street":Str),nat j)]),aJ iM (jo l W++[(("whole":Str),nat (cH W (done++[j])))]++[(("street":Str),nat j)]),s,?_,?_,rfl,_,.inr ⟨_,rfl⟩,rfl⟩
    ·rcases ht with rfl|⟨u,rfl⟩<;>kernel_rfl!
    ·rw [RL];show _=some (Fl.next,aJ iM (jo l W++[(("whole":Str),V.int ((cH W done^^^W j:Nat):Int))]++[(("street":Str),nat j)]),s)
     rw [←A0];generalize cH W done=x;clear hL';revert j hj;refine b8 ?_ ?_ ?_ ?_ ?_<;>kernel_rfl!)
  exact⟨tail,trivial,h⟩
 have hx:aU (CC k) 100 (aJ iM (jo l W)) iM.body σ=some (.ret (nat (cH W l)),aJ iM (jo l W++[(("whole":Str),nat (cH W l))]++tail),σ):=by
  refine aF (by kernel_rfl!) (az:=aJ iM (jo l W++[(("whole":Str),nat 0)])) (σ':=σ) (by kernel_rfl!) ?_
  refine aF (by kernel_rfl!) h ?_
  exact gD (by kernel_rfl!) (gF (by kernel_rfl!) (by kernel_rfl!))
 rw [gC (f:=iM) (bs:=jo l W) (by kernel_rfl!) (by kernel_rfl!) (by kernel_rfl!) hx]
 rw [lF];exact σ.length
section
variable{α:Type}{a:V}{b r:Bool}{ev:ao→Expr→aa→Option (V×aa)}
variable{C:Calls}{n:Nat}{me az:ao}{st:Stmt}{e:Expr}{σ σ' bA:aa}{v w:V}
theorem V9(x:Str)(u v:V):∀l:List (Str×V),kX x v (kX x u l)=kX x v l:=by
 intro l
 induction l with
 | nil=>exact if_pos rfl
 | cons hd0 r rc=>
  obtain⟨y,w⟩:=hd0;have e:∀(z:V) (w:V) (r:List (Str×V)),kX x z ((y,w)::r)=if y=x then (x,z)::r else (y,w)::kX x z r:=fun Z Z Z=>rfl
  by_cases h:y=x
  ·rw [e,e,if_pos h,if_pos h];exact if_pos rfl
  ·rw [e,if_neg h,e,if_neg h,e,if_neg h,rc]
theorem GX(me:ao)(x:Str)(u v:V):(me.set x u).set x v=me.set x v:=by
 unfold ao.set;simp only [V9]
noncomputable def oX(e:Expr):Str:=eS "" (fun x Z=>x) (gf e)
noncomputable def vo(e:Expr):Bool:=eS false (fun Z Z=>true) (gf e)&&(jk ((dJ e).names.lookup (oX e))&&!((dJ e).names.lookup (oX e)==some .free))
noncomputable def cE(e:Expr)(me:ao)(v:V):ao:=(eW (dJ e) me).set (oX e) v
theorem SG(h:vo e=true):∃p,gf e=.Name (oX e) p:=by
 refine bK (jh bF (gv h).1) ?_;rintro x p h -;refine⟨p,?_⟩;unfold oX;rw [h];rfl
theorem tG(h:vo e=true){gm:ao}(hn:gm.names=(dJ e).names)(hp:v.plain=true):cM gm (gf e) v=some (gm.set (oX e) v):=by
 refine aA (SG h) ?_;intro p fz;rw [fz];refine au (gv (gv h).2) ?_;intro h1 h2;rw [←hn] at h1 h2;show (if v.plain&&_&&_ then _ else none)=_
 rw [hp,h1,h2];rfl
theorem n6{l:List α}{g:α→V}(p:α→Bool)(f:α→V)(h:(rT e&&vo e&&((!fP C me (jF e)||ez (gf e))&&i7 me (dJ e)))=true)
 (hi:dD (ak C n) C me (jF e) σ=some (l.map g,σ')) (uH:∀a∈l,(g a).plain=true)
 (ht:∀a∈l,ou (aX C n) (cE e me (g a)) (qQ e) σ'=some (p a,σ')) (he:∀a∈l,p a=true→ak C n (cE e me (g a)) (jE e) σ'=some (f a,σ')) (hp:∀a∈l,p a=true→(f a).plain=true) (hl:l.length≤sizeLine) :
 ak C (n+1) me e σ=some (.lst ((l.filter p).map f),σ'):=by
 rw [and_eq_true,and_eq_true] at h;refine Gw p f (fun a=>cE e me (g a)) h.1.1 h.2 hi (fun a ha=>tG h.1.2 rfl (uH a ha)) (fun a ha b Z=>?_) ht he hp hl;rw [tG h.1.2 rfl (uH a ha)];show some (((eW (dJ e) me).set _ _).set _ _)=_;rw [GX];rfl
theorem kR{l:List α}{g:α→V}(f:α→V)(h:(rT e&&vo e&&((!fP C me (jF e)||ez (gf e))&&i7 me (dJ e))&&(qQ e).isEmpty)=true)
 (hi:dD (ak C n) C me (jF e) σ=some (l.map g,σ')) (uH:∀a∈l,(g a).plain=true)
 (he:∀a∈l,ak C n (cE e me (g a)) (jE e) σ'=some (f a,σ')) (hp:∀a∈l,(f a).plain=true) (hl:l.length≤sizeLine) :
 ak C (n+1) me e σ=some (.lst (l.map f),σ'):=by
 rw [and_eq_true] at h;have:=n6 (fun Z=>true) f h.1 hi uH (fun a Z=>by rw [isEmpty_iff.mp h.2];rfl) (fun a ha Z=>he a ha) (fun a ha Z=>hp a ha) hl
 rw [List.filter_eq_self.mpr (fun Z Z=>rfl)] at this;exact this
noncomputable def PX:Expr→Bool:=mj false fun Z Z Z Z=>true
noncomputable def SX:Expr→Operator:=mj .Add fun Z o Z Z=>o
noncomputable def zm:Expr→Bool:=we false fun Z os rs Z=>v1 false (fun Z=>true) os&&v1 false (fun Z=>true) rs
noncomputable def Cr:Expr→CmpOp:=we .Eq fun Z os Z Z=>os.head?.getD .Eq
theorem fZ{b r:V}(h:PX e=true)(h1:ak C n me (eN (bh e) 0) σ=some (a,σ'))(h2:ak C n me (eN (bh e) 1) σ'=some (b,bA))(hb:iC bA (SX e) a b=some r):ak C (n+1) me e σ=some (r,bA):=by
 refine fu (Er bF h) ?_;rintro l o q p rfl -;exact aK (x:=ak C n me l σ) h1 (aK h2 (cS hb rfl))
theorem Cp{l r:Expr}{b:V}{op:CmpOp}{c:Bool}(h1:ev me l σ=some (a,σ'))(h2:ev me r σ'=some (b,bA))(hb:cQ bA op a b=some c):qU ev me l op r σ=some (c,bA):=
 aK h1 (aK h2 (cS hb rfl))
theorem wj(h1:ev me e σ=some (v,σ'))(hb:gr σ' v=some b):wh ev me e σ=some (b,σ'):=aK h1 (cS hb rfl)
theorem Es(h:zm e=true):∃l o r p,e=.Compare l [o] [r] p:=by
 refine fu (O6 bF h) ?_;rintro l os rs p rfl h2;refine au (gv h2) ?_;intro h3 h4;refine aj (i1 bF h3) ?_;rintro o rfl -;refine aj (i1 bF h4) ?_;rintro r rfl -;exact⟨l,o,r,p,rfl⟩
theorem Ah{b:V}(h:zm e=true)(h1:ak C n me (eN (bh e) 0) σ=some (a,σ'))(h2:ak C n me (eN (bh e) 1) σ'=some (b,bA))(hb:cQ bA (Cr e) a b=some r):ak C (n+1) me e σ=some (.bool r,bA):=by
 refine o9 (Es h) ?_;rintro l o q p rfl;exact cS (x:=qU (ak C n) me l o q σ) (Cp h1 h2 hb) rfl
theorem fF{b:V}(h:zm e=true)(h1:ak C n me (eN (bh e) 0) σ=some (a,σ'))(h2:ak C n me (eN (bh e) 1) σ'=some (b,bA))(hb:cQ bA (Cr e) a b=some r):aX C (n+1) me e σ=some (r,bA):=by
 refine o9 (Es h) ?_;rintro l o q p rfl;exact Cp h1 h2 hb
noncomputable def isVal(e:Expr):Bool:=eS (mj (gu (jB false (fun Z Z Z=>true) e) (fun Z Z Z Z=>true) e) (fun Z Z Z Z=>true) e) (fun Z Z=>true) e
theorem Wc{f:Str→Pos→Bool}(h:eS b f e=true):eS false f e=true∨b=true:=by
 unfold eS at h ⊢
 by_cases c:e.ctorIdx=23
 ·rw [dif_pos c] at h ⊢;exact .inl h
 ·rw [dif_neg c] at h;exact .inr h
theorem Wa{f:Expr→Operator→Expr→Pos→Bool}(h:mj b f e=true):mj false f e=true∨b=true:=by
 unfold mj at h ⊢
 by_cases c:e.ctorIdx=2
 ·rw [dif_pos c] at h ⊢;exact .inl h
 ·rw [dif_neg c] at h;exact .inr h
theorem Wb{f:Expr→List Expr→List Keyword→Pos→Bool}(h:gu b f e=true):gu false f e=true∨b=true:=by
 unfold gu at h ⊢
 by_cases c:e.ctorIdx=16
 ·rw [dif_pos c] at h ⊢;exact .inl h
 ·rw [dif_neg c] at h;exact .inr h
theorem n8(h:isVal e=true)(he:ak C n me e σ=some (v,σ'))(hb:gr σ' v=some b):aX C (n+1) me e σ=some (b,σ'):=by
 rcases Wc h with h|h
 ·refine bK (jh bF h) ?_;rintro x p rfl -;exact wj he hb
 rcases Wa h with h|h
 ·refine fu (Er bF h) ?_;rintro x y z p rfl -;exact wj he hb
 rcases Wb h with h|h
 ·refine fu (pK bF h) ?_;rintro x y z p rfl -;exact wj he hb
 ·refine bG (nG bF h) ?_;rintro x y p rfl -;exact wj he hb
theorem add_lists{x y:List V}(h:listOf σ a=some x)(hl:x.length+y.length≤sizeLine):iC σ .Add a (.lst y)=some (.lst (x++y)):=by
 have e1:∀b,(listOf σ b=some x)→iC σ .Add b (.lst y)=(listOf σ b).bind fun x=>if x.length+y.length≤sizeLine then some (V.lst (x++y)) else none:=fun b hb=>by
  cases b with
  | lst=>rfl
  | loc=>rfl
  | _=>exact nn hb
 exact (e1 a h).trans (aK h (if_pos hl))
noncomputable def Qg:Expr→Bool:=gu false fun f as w q=>sV false (fun o Z ap=>w.isEmpty&&(l7 o&&ap.endLine==q.line&&decide (as.length<29))) f
noncomputable def Rj:Expr→Expr:=gu eU fun f Z Z Z=>sV eU (fun o Z Z=>o) f
noncomputable def Ri:Expr→Str:=gu "" fun f Z Z Z=>sV "" (fun Z n Z=>n) f
theorem jX{ov f r:V}{vs:List V}{σ₁:aa}(h:Qg e=true)(ho:ak C n me (Rj e) σ=some (ov,σ'))(hf:C.res ov (Ri e) σ'=some f)(ha:b7 (ak C n) me (bh e) σ'=some (vs,bA))(hc:C.call f (ov::vs) none bA=some (r,σ₁)):ak C (n+1) me e σ=some (r,σ₁):=by
 refine fu (pK bF h) ?_;rintro g as w q rfl h2;refine bG (Eo bF h2) ?_;rintro o nm ap rfl h3;refine au (gv h3) ?_;intro h4 h5;obtain rfl:=isEmpty_iff.mp h4;show qh (ak C n) C me o nm ap as q σ=_;exact (if_pos h5).trans (aK ho (aK hf (aK ha hc)))
noncomputable def isBool:Expr→Bool:=wc false fun Z Z Z=>true
noncomputable def boolOf:Expr→BoolOp:=wc .And fun o Z Z=>o
theorem g6(h:isBool e=true)(ht:gP (aX C n) me (boolOf e) (bh e) σ=some (b,σ')):aX C (n+1) me e σ=some (b,σ'):=by
 refine bG (zf bF h) ?_;rintro o es p rfl -;exact ht
theorem F8{sc:Scope}{bs:List (Str×V)}(h:fD sc (bs.map fun b=>(b.1,V.none))=true)(hp:∀b∈bs,b.2.plain=true):fD sc bs=true:=by
 unfold fD at h ⊢;simp only [and_eq_true,List.all_map,map_map] at h;refine au h ?_;clear h;intro hh;refine au hh ?_;clear hh;intro hh;refine au hh ?_;clear hh;intro hh;refine au hh ?_;clear hh;intro h2 h3;intro h4;intro h5;intro h6;simp only [and_eq_true];refine⟨⟨⟨⟨h2,h3⟩,?_⟩,h5⟩,h6⟩;rw [or_eq_true];exact .inr (all_eq_true.mpr hp)
theorem Gq(W:Nat→Nat):(wv W).plain=true:=rfl
noncomputable def vm(s:Stmt):Str:=eS "" (fun x Z=>x) (mS s)
theorem dP(h:(EH st&&(jk (me.names.lookup (vm st))&&!(me.names.lookup (vm st)==some .free)))=true)(hp:v.plain=true)(he:ak C n me (br st) σ=some (v,σ'))(hs:me.set (vm st) v=az):aZ C (n+1) me st σ=some (.next,az,σ'):=by
 refine au (gv h) ?_;intro h1 h2;refine dO h1 he ?_;refine bG (uO bF h1) ?_;rintro _ e p rfl h3;refine aj (i1 bF h3) ?_;rintro t rfl h4;refine bK (jh bF h4) ?_;rintro x q rfl -;refine au (gv h2) ?_;intro h5 h6;replace h5:jk (me.names.lookup x)=true:=h5;replace h6:(!(me.names.lookup x==some .free))=true:=h6;show (if v.plain&&_&&_ then _ else none)=_
 rw [hp,h5,h6];exact congrArg some hs
end
noncomputable def iQ:b9:=fnOf "_law_ring" 174 173
noncomputable def Aq:List Stmt:=fnBody "_law_ring"
noncomputable def dW(W:Nat→Nat)(l:List Nat):List Nat:=l.foldl (fun acc j=>acc++acc.map (· ^^^ W j)) [0]
theorem Vs(W:Nat→Nat)(l:List Nat)(j:Nat):dW W (l++[j])=dW W l++(dW W l).map (· ^^^ W j):=by simp [dW]
theorem M0(W:Nat→Nat):∀(l:List Nat) (a:List Nat),(l.foldl (fun acc j=>acc++acc.map (· ^^^ W j)) a).length=a.length*2^l.length:=by
 intro l
 induction l with
 | nil=>intro a;simp
 | cons j l rc=>intro a;rw [foldl_cons,rc];simp [Nat.pow_succ];rw [mul_comm (2^l.length) 2,←Nat.mul_assoc];congr 1;lia
theorem Vt(W:Nat→Nat)(l:List Nat):(dW W l).length=2^l.length:=by
 unfold dW;rw [M0];simp
theorem T6{n:Nat}(h:n≤8):2^n≤256:=Nat.pow_le_pow_right (by decide) h (n:=2)
noncomputable def c9(W:Nat→Nat)(l:List Nat):Bool:=decide (1<(dW W l).count 0)
theorem PO(l:List Nat):intsOf (l.map nat)=some (l.map ofNat):=by
 induction l with
 | nil=>rfl
 | cons a r ih=>show (intsOf (r.map nat)).map _=_;rw [ih];rfl
theorem Lk(l:List Nat):(l.map ofNat).count 0=l.count 0:=by
 induction l with
 | nil=>rfl
 | cons a r ih=>
  rw [map_cons,List.count_cons,List.count_cons,ih];congr 1
  by_cases h:a=0
  ·subst h;rfl
  ·have h1:(ofNat a==0)=false:=by simpa using h
   have h2:(a==0)=false:=by simpa using h
   rw [h1,h2]
noncomputable def iR(l:List Nat)(W:Nat→Nat):List (Str×V):=[(("streets":Str),sub l),(("ways":Str),wv W)]
theorem GL(k:Nat)(W:Nat→Nat)(l:List Nat)(hl:∀j∈l,j<5)(hL:l.length≤8)(σ:aa):(CC (k+2)).call (.base 174) [sub l,wv W] none σ=some (.bool (c9 W l),σ):=by
 obtain⟨tail,h⟩:∃tail,aZ (CC (k+1)) 98 (aJ iQ (iR l W++[(("sums":Str),sub [0])])) (sN (Aq.drop 1) 0) σ=some (.next,aJ iQ (iR l W++[(("sums":Str),sub (dW W l))]++tail),σ):=by
  obtain⟨cG,σ2,⟨rfl,tail,_,rfl⟩,h⟩:=iP (C:=CC (k+1)) (n:=96) (st:=sN (Aq.drop 1) 0) (me:=aJ iQ (iR l W++[(("sums":Str),sub [0])])) (σ:=σ) (σ':=σ) (g:=nat) (L:=l)
   (fun done me s=>s=σ∧∃tail:List (Str×V),(tail=[]∨∃u,tail=[(("street":Str),u)])∧me=aJ iQ (iR l W++[(("sums":Str),sub (dW W done))]++tail))
   (by kernel_rfl!) (by kernel_rfl!) (g8 (by kernel_rfl!) (by kernel_rfl!) (by simp;lia) (cW l)) (by kernel_rfl!) ⟨rfl,[],.inl rfl,rfl⟩
   (fun done j rest me s hL' hI=>by
    obtain⟨rfl,tail,ht,rfl⟩:=hI;have hj:j<5:=hl j (by rw [hL'];simp)
    have hlen:(dW W done).length≤256:=by
     rw [Vt];refine T6 ?_;have:=congrArg length hL';simp at this;lia
    refine⟨aJ iQ (iR l W++[(("sums":Str),sub (dW W done))]++[(("street":Str),nat j)]),aJ iQ (iR l W++[(("sums":Str),sub (dW W (done++[j])))]++[(("street":Str),nat j)]),s,?_,?_,rfl,_,.inr ⟨_,rfl⟩,rfl⟩
    ·rcases ht with rfl|⟨u,rfl⟩<;>kernel_rfl!
    ·rw [Vs];generalize dW W done=x at hlen;clear hL';refine aF (by kernel_rfl!) (dP (by kernel_rfl!) (cW _) (fZ (a:=sub x) (b:=sub (x.map (· ^^^ W j))) (r:=sub (x++x.map (· ^^^ W j))) (σ':=s) (by kernel_rfl!) (by kernel_rfl!) ?_ ?_) (by kernel_rfl!)) (bC (by kernel_rfl!))
     ·have:=kR (C:=CC (k+1)) (n:=93) (me:=aJ iQ (iR l W++[(("sums":Str),sub x)]++[(("street":Str),nat j)])) (e:=eN (bh (br (sN (aW (sN (Aq.drop 1) 0)) 0))) 1) (σ:=s) (σ':=s) (l:=x) (g:=nat) (fun a=>nat (a^^^W j)) (by kernel_rfl!)
       (g8 (by kernel_rfl!) (by kernel_rfl!) (by simp;lia) (cW x)) (fun a Z=>rfl) (fun a Z=>by
        show _=some (V.int ((a^^^W j:Nat):Int),s);rw [←A0];revert j hj;refine b8 ?_ ?_ ?_ ?_ ?_<;>kernel_rfl!) (fun Z Z=>rfl) (by rw [show sizeLine=2^24 from rfl];lia)
      rw [this];unfold sub;rw [map_map];rfl
     ·show iC s .Add (sub x) (sub _)=_;unfold sub;rw [add_lists rfl (by simp;rw [show sizeLine=2^24 from rfl];lia),map_append])
  exact⟨tail,h⟩
 have hx:aU (CC (k+1)) 100 (aJ iQ (iR l W)) iQ.body σ=some (.ret (.bool (c9 W l)),aJ iQ (iR l W++[(("sums":Str),sub (dW W l))]++tail),σ):=by
  refine aF (by kernel_rfl!) (az:=aJ iQ (iR l W++[(("sums":Str),sub [0])])) (σ':=σ) (by kernel_rfl!) ?_
  refine aF (by kernel_rfl!) h ?_
  refine gD (by kernel_rfl!) (gF (by kernel_rfl!) (Ah (a:=nat ((dW W l).count 0)) (b:=nat 1) (σ':=σ) (r:=c9 W l) (by kernel_rfl!) (jX (ov:=sub (dW W l)) (f:=.bi "list.count") (vs:=[nat 0]) (σ':=σ) (bA:=σ) (by kernel_rfl!) (by kernel_rfl!) (by kernel_rfl!) (by kernel_rfl!) ?_) (by kernel_rfl!) ?_))
  ·refine Eq.trans (b:=(intsOf ((dW W l).map nat)).map fun ns=>(.int (ns.count 0:Nat),σ)) ?_ ?_
   ·kernel_rfl!
   ·rw [PO,map_some,Lk]
  ·have:c9 W l=decide (((dW W l).count 0:Int)>1):=by
    unfold c9;congr 1;exact propext ofNat_lt.symm
   rw [this];rfl
 rw [gC (f:=iQ) (bs:=iR l W) (by kernel_rfl!) (by kernel_rfl!) (F8 (by kernel_rfl!) (by simp [iR,cW,Gq])) hx]
 rw [x7]
section
variable{ev:ao→Expr→aa→Option (V×aa)}{as:List Expr}{p:Nat→Bool}{j:Nat}
variable{C:Calls}{n:Nat}{me az:ao}{st:Stmt}{e:Expr}{σ σ' bA:aa}{v w:V}
noncomputable def noStar(e:Expr):Bool:=!(e.ctorIdx==22)
theorem LR(ev:ao→Expr→aa→Option (V×aa))(a:Expr)(r:List Expr)(h:noStar a=true):b7 ev me (a::r) σ=(ev me a σ).bind fun (v,σ)=>(b7 ev me r σ).map fun (vs,σ)=>(v::vs,σ):=by
 refine if_neg fun z=>?_;unfold noStar at h;rw [z] at h;exact ff h
theorem eV{vs:List V}(h:(!as.isEmpty&&noStar (eN as 0))=true)(h1:ev me (eN as 0) σ=some (v,σ'))(h2:b7 ev me (as.drop 1) σ'=some (vs,bA)):b7 ev me as σ=some (v::vs,bA):=by
 cases as with
 | nil=>exact ff h
 | cons a r=>exact (LR ev a r h).trans (aK h1 (cS h2 rfl))
theorem i9(h:as.isEmpty=true):b7 ev me as σ=some ([],σ):=by
 cases as with
 | nil=>rfl
 | cons a r=>cases h
theorem qt{tr:ao→Expr→aa→Option (Bool×aa)}{es:List Expr}{b:Bool}(h:(!es.isEmpty&&(es.drop 1).isEmpty)=true)(h1:tr me (eN es 0) σ=some (b,σ')):ou tr me es σ=some (b,σ'):=by
 cases es with
 | nil=>simp at h
 | cons a r=>
  cases r with
  | nil=>exact aK (x:=tr me a σ) h1 (by cases b<;>rfl)
  | cons c r=>simp at h
theorem tO(x a:Nat):decide (Builtin.bitAnd (x:Int) (a:Int)≠0)=(x&&& a != 0):=by
 rw [tF]
 by_cases h:x&&& a=0
 ·rw [h];rfl
 ·have:((x&&& a:Nat):Int)≠0:=by lia
  rw [decide_eq_true this];simp [h]
noncomputable def hs(p:Nat→Bool):List Nat:=(List.range 5).filter p
theorem jf(h:j∈hs p):j<5:=mem_range.mp (mem_filter.mp h).1
theorem jN:j∈hs p↔j<5∧p j=true:=by simp [hs,mem_filter]
theorem jM(p:Nat→Bool):(hs p).length≤5:=le_trans (List.length_filter_le _ _) (by simp)
noncomputable def lvl(S:Nat→Nat)(a:Nat)(h:Nat):Bool:=S h&&& a != 0
noncomputable def cC(S W:Nat→Nat):Bool:=cH W (hs (lvl S 1))==0&&(cH W (hs (lvl S 2))==0&&cH W (hs (lvl S 4))==0)
noncomputable def pA:b9:=fnOf "_law_even" 169 168
noncomputable def xU:List Stmt:=fnBody "_law_even"
noncomputable def qY(S W:Nat→Nat):List (Str×V):=[(("sizes":Str),wv S),(("ways":Str),wv W)]
theorem C1(k:Nat)(S W:Nat→Nat)(σ:aa):(CC (k+2)).call (.base 169) [wv S,wv W] none σ=some (.bool (cC S W),σ):=by
 have hin:∀a∈[1,2,4],ak (CC (k+1)) 95 (cE (eN (bh (br (sN xU 0))) 0) (aJ pA (qY S W)) (nat a)) (eN (bh (jE (eN (bh (br (sN xU 0))) 0))) 0) σ=some (sub (hs (lvl S a)),σ):=by
  intro a ha;refine n6 (l:=List.range 5) (g:=nat) (σ':=σ) (lvl S a) nat ?_ ?_ (fun Z Z=>rfl) ?_ ?_ (fun Z Z Z=>rfl) (by decide)
  ·kernel_rfl!
  ·kernel_rfl!
  ·intro h hh;unfold lvl;refine qt (by kernel_rfl!) ?_
   rw [←tO];revert h;simp only [mem_range];simp only [mem_cons,not_mem_nil,or_false] at ha;rcases ha with rfl|rfl|rfl<;>(refine b8 ?_ ?_ ?_ ?_ ?_)<;>kernel_rfl!
  ·intro h hh _;kernel_rfl!
 have ho:ak (CC (k+1)) 97 (aJ pA (qY S W)) (eN (bh (br (sN xU 0))) 0) σ=some (.lst ([1,2,4].map fun a=>nat (cH W (hs (lvl S a)))),σ):=by
  refine kR (l:=[1,2,4]) (g:=nat) (σ':=σ) _ (by kernel_rfl!) (by kernel_rfl!) (fun Z Z=>rfl) ?_ (fun Z Z=>rfl) (by decide)
  intro a ha;refine cN (by kernel_rfl!) (fv:=.base 164) (vs:=[sub (hs (lvl S a)),wv W]) (σ':=σ) (by kernel_rfl!) (eV (σ':=σ) (by kernel_rfl!) (hin a ha) (eV (σ':=σ) (by kernel_rfl!) ?_ (i9 (by kernel_rfl!)))) ?_
  ·kernel_rfl!
  ·exact FE k W _ (fun j h=>jf h) (lt_of_le_of_lt (jM _) (by decide)) σ
 have hx:aU (CC (k+1)) 100 (aJ pA (qY S W)) pA.body σ=some (.ret (.bool (cC S W)),aJ pA (qY S W),σ):=by
  refine gD (by kernel_rfl!) (gF (by kernel_rfl!) (Ah (by kernel_rfl!) ho (b:=.lst [nat 0,nat 0,nat 0]) (bA:=σ) (by kernel_rfl!) ?_))
  unfold cC;simp only [map_cons,map_nil];generalize cH W (hs (lvl S 1))=x;generalize cH W (hs (lvl S 2))=y;generalize cH W (hs (lvl S 4))=z;cases x<;>cases y<;>cases z<;>kernel_rfl!
 rw [gC (f:=pA) (bs:=qY S W) (by kernel_rfl!) (by kernel_rfl!) (by kernel_rfl!) hx,x7]
end
section
variable{lo hi m f j p x:Nat}{items caps:List V}{S:fU}{it:V}{K:Nat→Nat}{σ:aa}{tail:List (Str×V)}
theorem RS(h:lo<hi):lo≤(lo+hi)/2:=(Nat.le_div_iff_mul_le (by decide)).mpr (Nat.mul_two lo▸add_le_add_left (le_of_lt h) lo)
theorem zJ(h:lo<hi):(lo+hi)/2<hi:=(Nat.div_lt_iff_lt_mul (by decide)).mpr (Nat.mul_two hi▸Nat.add_lt_add_right h hi)
theorem RP(h:lo<hi)(h1:lo≤m)(h4:hi - lo<f+1):hi - (m+1)<f:=lt_of_lt_of_le (Nat.sub_lt_sub_left h (lt_succ_of_le h1)) (Nat.le_of_lt_succ h4)
theorem RQ(h1:lo≤m)(h2:m<hi)(h4:hi - lo<f+1):m - lo<f:=lt_of_lt_of_le (Nat.sub_lt_sub_right h1 h2) (Nat.le_of_lt_succ h4)
section
variable{C:Calls}{n:Nat}{me az:ao}{st:Stmt}{e:Expr}{σ σ' bA:aa}{v w:V}
noncomputable def Qd:Expr→Bool:=jB false fun Z i Z=>(slice? i).isNone
theorem jW{o:V}{j:Int}(h:Qd e=true)(h1:ak C n me (eN (bh e) 0) σ=some (o,σ'))(h2:ak C n me (eN (bh e) 1) σ'=some (.int j,bA))(hv:pM bA o j=some v):ak C (n+1) me e σ=some (v,bA):=by
 refine bG (nG bF h) ?_;rintro a i q rfl h3;have hs:=isNone_iff_eq_none.mp h3;show sQ (ak C n) me a i σ=_;unfold sQ;rw [hs];exact aK h1 (aK h2 (cS hv rfl))
theorem uT(h:j<1000):(j:Int)<2^62:=by
 have h1:j<2^62:=lt_trans h (by decide)
 exact_mod_cast h1
theorem Ph{z:Option V}(Nj:(j:Int)<2^62):(if 0≤(j:Int)∧(j:Int)<2^62 then items[(j:Int).toNat]? else z)=items[j]?:=by
 have c:(0≤(j:Int)∧(j:Int)<2^62):=⟨natCast_nonneg j,Nj⟩;rw [if_pos c,toNat_natCast]
theorem Pf{σ:aa}{v:V}(h:listOf σ v=some items)(hv:pM σ v (j:Int)=(listOf σ v).bind fun l=>if 0≤(j:Int)∧(j:Int)<2^62 then l[(j:Int).toNat]? else if -(l.length:Int)≤(j:Int)∧(j:Int)<0∧l.length<2^20 then l[((j:Int)+l.length).toNat]? else none)(hj:j<1000):pM σ v (j:Int)=items[j]?:=by
 rw [hv,h,bind_some];exact Ph (uT hj)
theorem uZ{σ:aa}(h:σ[m]?=some (.list items)):listAt σ m=some items:=aK h rfl
theorem DC{σ:aa}(h:σ[m]?=some (.list items)):j9 m σ (.loc m)=.lst items:=by
 show (if m<m then none else listAt σ m).elim _ _=_
 rw [if_neg (lt_irrefl _),uZ h];rfl
theorem kH{σ:aa}(h:σ[m]?=some (.list items)):listOf σ (.loc m)=some items:=by
 show (σ[m]?).bind _=_;exact aK h rfl
theorem nH{σ:aa}(h:σ[m]?=some (.list items))(hj:j<1000):pM σ (.loc m) (j:Int)=items[j]?:=Pf (kH h) (by kernel_rfl!) hj
theorem FH(lo hi:Nat):(((lo+hi)/2:Nat):Int)=fdiv ((lo:Int)+(hi:Int)) 2:=by
 rw [Int.fdiv_eq_ediv_of_nonneg _ (by decide)]
 lia
theorem uX(k:Nat)(h:σ[m]?=some (.list items))(hl:items.length<2^20):(CC (k+1)).call (.bi "len") [.loc m] none σ=some (nat items.length,σ):=by
 show xr [.loc m] σ=_;show lenOf (.loc m) σ=_;unfold lenOf;rw [kH h];exact if_pos hl
theorem B4{ex:ao→List Stmt→aa→Option (Fl×ao×aa)}{tr:ao→Expr→aa→Option (Bool×aa)}{test:Expr}{body orelse:List Stmt}(Me:Nat→Nat→List (Str×V)→ao)(c:Nat→Bool){len:Nat}(T:List (Str×V)→Prop)
 (hlt:∀lo hi t,T t→hi≤len→tr (Me lo hi t) test σ=some (decide (lo<hi),σ)) (hstep:∀lo hi t,T t→lo<hi→hi≤len→∃t',T t'∧ex (Me lo hi t) body σ=some (.next,if c ((lo+hi)/2) then Me ((lo+hi)/2+1) hi t' else Me lo ((lo+hi)/2) t',σ))
 (hc1:∀i<p,c i=true) (hc2:∀i,p≤i→i<len→c i=false):∀(fuel lo hi:Nat) t,T t→lo≤p→p≤hi→hi≤len→hi - lo<fuel→∃t',T t'∧gI ex tr test body orelse fuel (Me lo hi t) σ=ex (Me p p t') orelse σ:=by
 intro fuel
 induction fuel with
 | zero=>intro lo hi t _ _ _ _ h;exact absurd h (not_lt_zero _)
 | succ fuel rc=>
  intro lo hi t ht h1 h2 h3 h4
  by_cases lK:lo<hi
  ·refine aj (hstep lo hi t ht lK h3) ?_;intro t' ht' hs;have m1:=RS lK;have m2:=zJ lK;generalize (lo+hi)/2=mid at hs m1 m2;have e:gI ex tr test body orelse (fuel+1) (Me lo hi t) σ=gI ex tr test body orelse fuel (if c mid then Me (mid+1) hi t' else Me lo mid t') σ:=by
    exact aK (hlt lo hi t ht h3) ((if_pos (decide_eq_true lK)).trans (aK hs rfl))
   rw [e];cases hc:c mid with
   | true=>
    have:mid<p:=Nat.lt_of_not_le fun hq=>by rw [hc2 mid hq (lt_of_lt_of_le m2 h3)] at hc;cases hc
    exact rc (mid+1) hi t' ht' this h2 h3 (RP lK m1 h4)
   | false=>
    have:p≤mid:=le_of_not_lt fun hq=>by rw [hc1 mid hq] at hc;cases hc
    exact rc lo mid t' ht' h1 this (le_trans (le_of_lt m2) h3) (RQ m1 m2 h4)
  ·have e1:lo=p:=Nat.le_antisymm h1 (le_trans h2 (le_of_not_lt lK));have e2:hi=p:=Nat.le_antisymm (e1▸le_of_not_lt lK) h2;subst e1;subst e2;refine⟨t,ht,?_⟩;exact aK (hlt _ _ t ht h3) (if_neg fun z=>lK (of_decide_eq_true z))
end
noncomputable def lu(a x:V)(lo:Nat)(hi key:V):List (Str×V):=[(("a":Str),a),(("x":Str),x),(("lo":Str),nat lo),(("hi":Str),hi),(("key":Str),key)]
noncomputable def pP(t:List (Str×V)):Prop:=t=[]∨∃u,t=[(("mid":Str),u)]
noncomputable def qO:b9:=oO "bisect_left" 132 131
noncomputable def Ka:List Stmt:=fnBody "bisect_left"
noncomputable def oU:Stmt:=sN (iS (sN (Ka.drop 2) 0)) 0
noncomputable def iD(m:Nat)(cl:V)(x lo hi:Nat)(t:List (Str×V)):ao:=aJ qO (lu (.loc m) (nat x) lo (nat hi) cl++t)
theorem Ke(k:Nat){K:Nat}(ht:pP tail)(ha:σ[m]?=some (.list items))(hlen:items.length≤64)(hit:items[(lo+hi)/2]?=some it)
 (hK:(CC (k+1)).call (.aE S caps) [it] none σ=some (nat K,σ)) :
 ∃t',pP t'∧aU (CC (k+1)) 94 (iD m (.aE S caps) x lo hi tail) (aW oU) σ=some (.next,if K<x then iD m (.aE S caps) x ((lo+hi)/2+1) hi t' else iD m (.aE S caps) x lo ((lo+hi)/2) t',σ):=by
 generalize hm:(lo+hi)/2=mid at hit;have hml:mid<64:=by
  exact lt_of_lt_of_le (List.getElem?_eq_some_iff.mp hit).1 hlen
 refine⟨[(("mid":Str),nat mid)],.inr ⟨_,rfl⟩,?_⟩;refine aF (by kernel_rfl!) (az:=iD m (.aE S caps) x lo hi [(("mid":Str),nat mid)]) (σ':=σ) ?_ ?_
 ·rw [←hm];show _=some (Fl.next,iD m (.aE S caps) x lo hi [(("mid":Str),V.int (((lo+hi)/2:Nat):Int))],σ)
  rw [FH];rcases ht with rfl|⟨u,rfl⟩<;>kernel_rfl!
 ·have hk:ak (CC (k+1)) 90 (iD m (.aE S caps) x lo hi [(("mid":Str),nat mid)]) (eN (bh (bR (sN ((aW oU).drop 1) 0))) 0) σ=some (nat K,σ):=by
   refine cN (by kernel_rfl!) (fv:=.aE S caps) (vs:=[it]) (σ':=σ) (by kernel_rfl!) (eV (σ':=σ) (by kernel_rfl!) ?_ (i9 (by kernel_rfl!))) hK
   refine jW (by kernel_rfl!) (o:=.loc m) (j:=(mid:Int)) (σ':=σ) (by kernel_rfl!) (by kernel_rfl!) ?_
   rw [nH ha (lt_trans hml (by decide))];exact hit
  have ht:aX (CC (k+1)) 91 (iD m (.aE S caps) x lo hi [(("mid":Str),nat mid)]) (bR (sN ((aW oU).drop 1) 0)) σ=some (decide (K<x),σ):=by
   refine fF (by kernel_rfl!) (σ':=σ) (a:=nat K) (b:=nat x) hk (by kernel_rfl!) ?_
   show some (decide _)=_;congr 2;exact propext ofNat_lt
  by_cases hc:K<x
  ·rw [if_pos (hc)];refine aF (by kernel_rfl!) (cL (by kernel_rfl!) ht (R:=some (.next,iD m (.aE S caps) x (mid+1) hi [(("mid":Str),nat mid)],σ)) ?_) (bC (by kernel_rfl!))
   rw [decide_eq_true hc];kernel_rfl!
  ·rw [if_neg (hc)];refine aF (by kernel_rfl!) (cL (by kernel_rfl!) ht (R:=some (.next,iD m (.aE S caps) x lo mid [(("mid":Str),nat mid)],σ)) ?_) (bC (by kernel_rfl!))
   rw [decide_eq_false hc];kernel_rfl!
theorem Kd(k:Nat)(ha:σ[m]?=some (.list items))(hlen:items.length≤64)
 (hK:∀i it,items[i]?=some it→(CC (k+1)).call (.aE S caps) [it] none σ=some (nat (K i),σ)) (hp:p≤items.length) (hc1:∀i<p,K i<x) (hc2:∀i,p≤i→i<items.length→¬K i<x) :
 ∃az,aU (CC (k+1)) 100 (aJ qO (lu (.loc m) (nat x) 0 .none (.aE S caps))) qO.body σ=some (.ret (nat p),az,σ):=by
 obtain⟨t',ht',hw⟩:=B4 (σ:=σ) (ex:=aU (CC (k+1)) 94) (tr:=aX (CC (k+1)) 94) (test:=bR oU) (body:=aW oU) (orelse:=iS oU) (iD m (.aE S caps) x) (fun i=>decide (K i<x)) (p:=p) (len:=items.length) pP
  (fun lo hi t ht Z=>by
   have:decide (lo<hi)=decide ((lo:Int)<(hi:Int)):=by congr 1;exact propext ofNat_lt.symm
   rw [this];rcases ht with rfl|⟨u,rfl⟩<;>kernel_rfl!)
  (fun lo hi t ht hl hh=>by
   obtain⟨it,hit⟩:∃it,items[(lo+hi)/2]?=some it:=⟨_,getElem?_eq_getElem (lt_of_lt_of_le (zJ ‹lo<hi›) ‹hi≤_›)⟩;refine aj (Ke k (x:=x) ht ha hlen hit (hK _ _ hit)) ?_;intro t' h1 h2;refine⟨t',h1,h2.trans ?_⟩
   by_cases hc:K ((lo+hi)/2)<x
   ·rw [if_pos (hc),if_pos (decide_eq_true hc)]
   ·rw [if_neg (hc),if_neg (by simpa using hc)])
  (fun i hi=>by have:=hc1 i hi;exact decide_eq_true this) (fun i h1 h2=>by have:=hc2 i h1 h2;exact decide_eq_false this) 94 0 items.length [] (.inl rfl) (zero_le _) hp (le_refl _) (lt_of_le_of_lt hlen (by decide))
 refine⟨iD m (.aE S caps) x p p t',?_⟩;refine aF (by kernel_rfl!) (az:=aJ qO (lu (.loc m) (nat x) 0 .none (.aE S caps))) (σ':=σ) (by kernel_rfl!) ?_
 refine aF (by kernel_rfl!) (az:=iD m (.aE S caps) x 0 items.length []) (σ':=σ) ?_ ?_
 ·refine cL (by kernel_rfl!) (b:=true) (σ':=σ) (by kernel_rfl!) ?_
  refine aF (by kernel_rfl!) (dO (by kernel_rfl!) (cN (by kernel_rfl!) (fv:=.bi "len") (vs:=[.loc m]) (σ':=σ) (by kernel_rfl!) (by kernel_rfl!) (uX k ha (lt_of_le_of_lt hlen (by decide)))) (by kernel_rfl!)) (bC (by kernel_rfl!))
 refine aF (by kernel_rfl!) (cL (by kernel_rfl!) (b:=false) (σ':=σ) (by kernel_rfl!) (aF (by kernel_rfl!) (Al (by kernel_rfl!) (hw.trans (bC (by kernel_rfl!)))) (bC (by kernel_rfl!)))) ?_
 exact gD (by kernel_rfl!) (gF (by kernel_rfl!) (by rcases ht' with rfl|⟨u,rfl⟩<;>kernel_rfl!))
theorem Kc(k:Nat)(ha:σ[m]?=some (.list items))(hlen:items.length≤64)
 (hK:∀i it,items[i]?=some it→(CC (k+1)).call (.aE S caps) [it] none σ=some (nat (K i),σ)) (hp:p≤items.length) (hc1:∀i<p,K i<x) (hc2:∀i,p≤i→i<items.length→¬K i<x) :
 (CC (k+2)).call (.base 132) [.loc m,nat x] (some (.aE S caps)) σ=some (nat p,σ):=by
 refine aA (Kd k (x:=x) ha hlen hK hp hc1 hc2) ?_;intro az hx;rw [gC (f:=qO) (bs:=lu (.loc m) (nat x) 0 .none (.aE S caps)) (by kernel_rfl!) (by kernel_rfl!) (by kernel_rfl!) hx,lF]
 exact 0
noncomputable def qP:b9:=oO "bisect_right" 123 122
noncomputable def Kv:List Stmt:=fnBody "bisect_right"
noncomputable def oW:Stmt:=sN (iS (sN (Kv.drop 2) 0)) 0
noncomputable def iF(m:Nat)(cl:V)(x lo hi:Nat)(t:List (Str×V)):ao:=aJ qP (lu (.loc m) (nat x) lo (nat hi) cl++t)
theorem Kz(k:Nat){K:Nat}(ht:pP tail)(ha:σ[m]?=some (.list items))(hlen:items.length≤64)(hit:items[(lo+hi)/2]?=some it)
 (hK:(CC (k+1)).call (.aE S caps) [it] none σ=some (nat K,σ)) :
 ∃t',pP t'∧aU (CC (k+1)) 94 (iF m (.aE S caps) x lo hi tail) (aW oW) σ=some (.next,if K≤x then iF m (.aE S caps) x ((lo+hi)/2+1) hi t' else iF m (.aE S caps) x lo ((lo+hi)/2) t',σ):=by
 generalize hm:(lo+hi)/2=mid at hit;have hml:mid<64:=by
  exact lt_of_lt_of_le (List.getElem?_eq_some_iff.mp hit).1 hlen
 refine⟨[(("mid":Str),nat mid)],.inr ⟨_,rfl⟩,?_⟩;refine aF (by kernel_rfl!) (az:=iF m (.aE S caps) x lo hi [(("mid":Str),nat mid)]) (σ':=σ) ?_ ?_
 ·rw [←hm];show _=some (Fl.next,iF m (.aE S caps) x lo hi [(("mid":Str),V.int (((lo+hi)/2:Nat):Int))],σ)
  rw [FH];rcases ht with rfl|⟨u,rfl⟩<;>kernel_rfl!
 ·have hk:ak (CC (k+1)) 90 (iF m (.aE S caps) x lo hi [(("mid":Str),nat mid)]) (eN (bh (bR (sN ((aW oW).drop 1) 0))) 1) σ=some (nat K,σ):=by
   refine cN (by kernel_rfl!) (fv:=.aE S caps) (vs:=[it]) (σ':=σ) (by kernel_rfl!) (eV (σ':=σ) (by kernel_rfl!) ?_ (i9 (by kernel_rfl!))) hK
   refine jW (by kernel_rfl!) (o:=.loc m) (j:=(mid:Int)) (σ':=σ) (by kernel_rfl!) (by kernel_rfl!) ?_
   rw [nH ha (lt_trans hml (by decide))];exact hit
  have ht:aX (CC (k+1)) 91 (iF m (.aE S caps) x lo hi [(("mid":Str),nat mid)]) (bR (sN ((aW oW).drop 1) 0)) σ=some (decide (x<K),σ):=by
   refine fF (by kernel_rfl!) (σ':=σ) (a:=nat x) (b:=nat K) (by kernel_rfl!) hk ?_
   show some (decide _)=_;congr 2;exact propext ofNat_lt
  by_cases hc:K≤x
  ·rw [if_pos (hc)];refine aF (by kernel_rfl!) (cL (by kernel_rfl!) ht (R:=some (.next,iF m (.aE S caps) x (mid+1) hi [(("mid":Str),nat mid)],σ)) ?_) (bC (by kernel_rfl!))
   rw [decide_eq_false (by lia)]
   kernel_rfl!
  ·rw [if_neg (hc)];refine aF (by kernel_rfl!) (cL (by kernel_rfl!) ht (R:=some (.next,iF m (.aE S caps) x lo mid [(("mid":Str),nat mid)],σ)) ?_) (bC (by kernel_rfl!))
   rw [decide_eq_true (by lia)]
   kernel_rfl!
theorem Ky(k:Nat)(ha:σ[m]?=some (.list items))(hlen:items.length≤64)
 (hK:∀i it,items[i]?=some it→(CC (k+1)).call (.aE S caps) [it] none σ=some (nat (K i),σ)) (hp:p≤items.length) (hc1:∀i<p,K i≤x) (hc2:∀i,p≤i→i<items.length→¬K i≤x) :
 ∃az,aU (CC (k+1)) 100 (aJ qP (lu (.loc m) (nat x) 0 .none (.aE S caps))) qP.body σ=some (.ret (nat p),az,σ):=by
 obtain⟨t',ht',hw⟩:=B4 (σ:=σ) (ex:=aU (CC (k+1)) 94) (tr:=aX (CC (k+1)) 94) (test:=bR oW) (body:=aW oW) (orelse:=iS oW) (iF m (.aE S caps) x) (fun i=>decide (K i≤x)) (p:=p) (len:=items.length) pP
  (fun lo hi t ht Z=>by
   have:decide (lo<hi)=decide ((lo:Int)<(hi:Int)):=by congr 1;exact propext ofNat_lt.symm
   rw [this];rcases ht with rfl|⟨u,rfl⟩<;>kernel_rfl!)
  (fun lo hi t ht hl hh=>by
   obtain⟨it,hit⟩:∃it,items[(lo+hi)/2]?=some it:=⟨_,getElem?_eq_getElem (lt_of_lt_of_le (zJ ‹lo<hi›) ‹hi≤_›)⟩;refine aj (Kz k (x:=x) ht ha hlen hit (hK _ _ hit)) ?_;intro t' h1 h2;refine⟨t',h1,h2.trans ?_⟩
   by_cases hc:K ((lo+hi)/2)≤x
   ·rw [if_pos (hc),if_pos (decide_eq_true hc)]
   ·rw [if_neg (hc),if_neg (by simpa using hc)])
  (fun i hi=>by have:=hc1 i hi;exact decide_eq_true this) (fun i h1 h2=>by have:=hc2 i h1 h2;exact decide_eq_false this) 94 0 items.length [] (.inl rfl) (zero_le _) hp (le_refl _) (lt_of_le_of_lt hlen (by decide))
 refine⟨iF m (.aE S caps) x p p t',?_⟩;refine aF (by kernel_rfl!) (az:=aJ qP (lu (.loc m) (nat x) 0 .none (.aE S caps))) (σ':=σ) (by kernel_rfl!) ?_
 refine aF (by kernel_rfl!) (az:=iF m (.aE S caps) x 0 items.length []) (σ':=σ) ?_ ?_
 ·refine cL (by kernel_rfl!) (b:=true) (σ':=σ) (by kernel_rfl!) ?_
  refine aF (by kernel_rfl!) (dO (by kernel_rfl!) (cN (by kernel_rfl!) (fv:=.bi "len") (vs:=[.loc m]) (σ':=σ) (by kernel_rfl!) (by kernel_rfl!) (uX k ha (lt_of_le_of_lt hlen (by decide)))) (by kernel_rfl!)) (bC (by kernel_rfl!))
 refine aF (by kernel_rfl!) (cL (by kernel_rfl!) (b:=false) (σ':=σ) (by kernel_rfl!) (aF (by kernel_rfl!) (Al (by kernel_rfl!) (hw.trans (bC (by kernel_rfl!)))) (bC (by kernel_rfl!)))) ?_
 exact gD (by kernel_rfl!) (gF (by kernel_rfl!) (by rcases ht' with rfl|⟨u,rfl⟩<;>kernel_rfl!))
theorem Kw(k:Nat)(ha:σ[m]?=some (.list items))(hlen:items.length≤64)
 (hK:∀i it,items[i]?=some it→(CC (k+1)).call (.aE S caps) [it] none σ=some (nat (K i),σ)) (hp:p≤items.length) (hc1:∀i<p,K i≤x) (hc2:∀i,p≤i→i<items.length→¬K i≤x) :
 (CC (k+2)).call (.base 123) [.loc m,nat x,nat 0,.none] (some (.aE S caps)) σ=some (nat p,σ):=by
 refine aA (Ky k (x:=x) ha hlen hK hp hc1 hc2) ?_;intro az hx;rw [gC (f:=qP) (bs:=lu (.loc m) (nat x) 0 .none (.aE S caps)) (by kernel_rfl!) (by kernel_rfl!) (by kernel_rfl!) hx,lF]
 exact 0
noncomputable def rQ:b9:=oO "insort_right" 114 113
noncomputable def uQ(m:Nat)(x:V)(lo:Nat)(key:V):List (Str×V):=[(("a":Str),.loc m),(("x":Str),x),(("lo":Str),nat lo),(("hi":Str),.none),(("key":Str),key)]
theorem EE(k:Nat){x:V}{kx:Nat}(ha:σ[m]?=some (.list items))(hlen:items.length≤64)(hx:x.plain=true)(hkx:(CC (k+2)).call (.aE S caps) [x] none σ=some (nat kx,σ))
 (hK:∀i it,items[i]?=some it→(CC (k+1)).call (.aE S caps) [it] none σ=some (nat (K i),σ)) (hp:p≤items.length) (hc1:∀i<p,K i≤kx) (hc2:∀i,p≤i→i<items.length→¬K i≤kx) :
 (CC (k+3)).call (.base 114) [.loc m,x] (some (.aE S caps)) σ=some (.none,σ.set m (.list (items.take p++x::items.drop p))):=by
 have hb:=Kw k (x:=kx) ha hlen hK hp hc1 hc2;have hrun:aU (CC (k+2)) 100 (aJ rQ (uQ m x 0 (.aE S caps))) rQ.body σ=some (.next,aJ rQ (uQ m x p (.aE S caps)),σ.set m (.list (items.take p++x::items.drop p))):=by
  refine aF (by kernel_rfl!) (az:=aJ rQ (uQ m x p (.aE S caps))) (σ':=σ) ?_ ?_
  ·refine cL (by kernel_rfl!) (b:=false) (σ':=σ) (by kernel_rfl!) (aF (by kernel_rfl!) (dO (by kernel_rfl!) (sH (by kernel_rfl!) (fv:=.base 123) (vs:=[.loc m,nat kx,nat 0,.none]) (σ':=σ) (by kernel_rfl!) ?_ (kv:=.aE S caps) (bA:=σ) (by kernel_rfl!) hb) (by kernel_rfl!)) (bC (by kernel_rfl!)))
   refine eV (σ':=σ) (by kernel_rfl!) (by kernel_rfl!) (eV (σ':=σ) (by kernel_rfl!) (cN (by kernel_rfl!) (fv:=.aE S caps) (vs:=[x]) (σ':=σ) (by kernel_rfl!) (by kernel_rfl!) hkx) (by kernel_rfl!))
  ·refine aF (by kernel_rfl!) (n7 (by kernel_rfl!) (jX (by kernel_rfl!) (ov:=.loc m) (σ':=σ) (by kernel_rfl!) (f:=.bi "list.insert") ?_ (vs:=[nat p,x]) (bA:=σ) (by kernel_rfl!) ?_)) (bC (by kernel_rfl!))
   ·exact aK (x:=σ[m]?) ha (by kernel_rfl!)
   ·have c:x.plain=true∧items.length≤sizeLine∧0≤(p:Int)∧(p:Int)<2^62:=⟨hx,by rw [show sizeLine=2^24 from rfl];lia,natCast_nonneg p,uT (by lia)⟩
    have e:min (p:Int).toNat items.length=p:=by rw [toNat_natCast];lia
    show xq [.loc m,nat p,x] σ=_;exact aK rfl (aK rfl (aK rfl (aK (uZ ha) ((if_pos c).trans (by rw [e])))))
 rw [Um (f:=rQ) (bs:=uQ m x 0 (.aE S caps)) (by kernel_rfl!) (by kernel_rfl!) (by kernel_rfl!) hrun,ME _ _ (by simp)]
end
section
variable{b:List (Nat×Nat)}{R:Option (Bool×aa)}{vs:List V}{t i:Nat}{c e:Nat×Nat}
section
variable{C:Calls}{n:Nat}{me az:ao}{st:Stmt}{e:Expr}{σ σ' bA:aa}{v w:V}
noncomputable def Qe:Expr→Bool:=AR false fun Z Z Z Z=>true
theorem l9{b:Bool}{R:Option (V×aa)}(h:Qe e=true)(ht:aX C n me (eN (bh e) 0) σ=some (b,σ'))(hb:ak C n me (if b then eN (bh e) 1 else eN (bh e) 2) σ'=R):ak C (n+1) me e σ=R:=by
 refine fu (Pa bF h) ?_;rintro t a c p rfl -;exact aK (x:=aX C n me t σ) ht (by cases b<;>exact hb)
variable{tr:ao→Expr→aa→Option (Bool×aa)}{es:List Expr}
theorem gZ(h:es.isEmpty=false)(h1:tr me (eN es 0) σ=some (true,σ'))(h2:gP tr me .And (es.drop 1) σ'=R):gP tr me .And es σ=R:=by
 cases es with
 | nil=>cases h
 | cons a r=>exact aK (x:=tr me a σ) h1 h2
theorem l8(h:es.isEmpty=false)(h1:tr me (eN es 0) σ=some (false,σ')):gP tr me .And es σ=some (false,σ'):=by
 cases es with
 | nil=>cases h
 | cons a r=>exact aK (x:=tr me a σ) h1 rfl
theorem Ae(h:es.isEmpty=true):gP tr me .And es σ=some (true,σ):=by
 cases es with
 | nil=>rfl
 | cons a r=>cases h
theorem qp(h:es.isEmpty=false)(h1:tr me (eN es 0) σ=some (true,σ')):gP tr me .Or es σ=some (true,σ'):=by
 cases es with
 | nil=>cases h
 | cons a r=>exact aK (x:=tr me a σ) h1 rfl
theorem mh(h:es.isEmpty=false)(h1:tr me (eN es 0) σ=some (false,σ'))(h2:gP tr me .Or (es.drop 1) σ'=R):gP tr me .Or es σ=R:=by
 cases es with
 | nil=>cases h
 | cons a r=>exact aK (x:=tr me a σ) h1 h2
theorem vJ(h:es.isEmpty=true):gP tr me .Or es σ=some (false,σ):=by
 cases es with
 | nil=>rfl
 | cons a r=>cases h
theorem Ui{a b:Bool}(h:es.length=2)(h1:tr me (eN es 0) σ=some (a,σ))(h2:a=true→tr me (eN es 1) σ=some (b,σ))(h3:a=false→b=false):gP tr me .And es σ=some (b,σ):=by
 refine fq (uW h) ?_;rintro x y rfl
 ·cases a with
  | false=>rw [h3 rfl];exact l8 rfl h1
  | true=>
   refine gZ rfl h1 ?_;cases b with
   | true=>exact gZ rfl (h2 rfl) rfl
   | false=>exact l8 rfl (h2 rfl)
noncomputable def Qf:Expr→Bool:=AU false fun es Z=>!es.isEmpty
noncomputable def Qj:Expr→Bool:=mq false fun Z Z Z=>true
theorem Un(h:Qf e=true)(h1:b7 (ak C n) me (bh e) σ=some (vs,σ'))(hl:vs.length≤sizeLine):ak C (n+1) me e σ=some (.lst vs,σ'):=by
 refine bK (Pc bF h) ?_;rintro es p rfl h2;cases es with
 | nil=>exact ff h2
 | cons a r=>exact aK (x:=b7 (ak C n) me (a::r) σ) h1 (if_pos hl)
theorem GA(h:Qj e=true)(h1:b7 (ak C n) me (bh e) σ=some (vs,σ'))(hl:vs.length≤sizeLine):ak C (n+1) me e σ=some (.tup vs,σ'):=by
 refine bG (rN bF h) ?_;rintro es k p rfl -;exact aK (x:=b7 (ak C n) me es σ) h1 (if_pos hl)
end
noncomputable def PU:Stmt→Bool:=qC false fun ts e Z=>v1 false (mq false fun ts Z Z=>mq false (fun vs Z Z=>(qk ts).isSome&&!(vs.all (constantsAlone 8))) e) ts
theorem Af{C:Calls}{n:Nat}{me az:ao}{st:Stmt}{σ σ':aa}{v:V}(h:PU st=true)(he:ak C n me (br st) σ=some (v,σ'))(hp:v.plain=true)(ha:cM me (mS st) v=some az):aZ C (n+1) me st σ=some (.next,az,σ'):=by
 refine bG (uO bF h) ?_;rintro _ e q rfl h1;refine aj (i1 bF h1) ?_;rintro t rfl h2;refine bG (rN bF h2) ?_;rintro ts tk tp rfl h3;refine bG (rN bF h3) ?_;rintro vs vk vp rfl h4;refine au (gv h4) ?_;intro h5 h6;refine aA (isSome_iff_exists.mp h5) ?_;intro z hz;show (qk ts).bind _=_;exact aK hz ((if_pos (by simpa using h6)).trans (aK (x:=ak C n me (.Tuple vs vk vp) σ) he ((if_pos hp).trans (cS ha rfl))))
theorem AZ(σ:aa)(a b:Nat):iC σ .BitXor (nat a) (nat b)=some (nat (a^^^b)):=by
 show some (V.int (Builtin.bitXor a b))=_;rw [A0]
theorem tU{α:Type}{P:α→Bool}:∀b:List α,b.Pairwise (fun a c=>P c=true→P a=true)→∀(i:Nat) (x:α),b[i]?=some x→(i<b.countP P↔P x=true):=by
 intro b
 induction b with
 | nil=>intro _ i x h;simp at h
 | cons a r rc=>
  intro hp i x h;rw [List.pairwise_cons] at hp;cases hq:P a with
  | true=>
   rw [List.countP_cons_of_pos hq];cases i with
   | zero=>simp at h;subst h;simp [hq]
   | succ i=>simp at h;rw [←rc hp.2 i x h];lia
  | false=>
   have hz:r.countP P=0:=by
    rw [List.countP_eq_zero];intro c hc hcc;have:=hp.1 c hc hcc;rw [hq] at this;cases this
   rw [List.countP_cons_of_neg (by rw [hq];decide),hz]
   constructor
   ·intro hh;lia
   ·intro hh;cases i with
    | zero=>simp at h;subst h;rw [hq] at hh;cases hh
    | succ i=>simp at h;have:=hp.1 x (mem_of_getElem? h) hh;rw [hq] at this;cases this
noncomputable def dm(e:Nat×Nat):V:=.tup [nat e.1,nat e.2]
noncomputable def gq(b:List (Nat×Nat)):Prop:=b.Pairwise fun a c=>a.1≤c.1
noncomputable def i6(b:List (Nat×Nat))(t:Nat):Nat:=b.countP fun e=>decide (e.1<t)
noncomputable def jG(b:List (Nat×Nat))(t:Nat):Nat:=b.countP fun e=>decide (e.1≤t)
noncomputable def cj(b:List (Nat×Nat))(e:Nat×Nat)(t:Nat):Nat×Nat:=if e.1&&& t != 0 then (match b[i6 b t]? with
 | some c=>if c.1<2*t then (e.1^^^c.1,e.2^^^c.2) else e
 | none=>e) else e
noncomputable def cT(b:List (Nat×Nat))(e:Nat×Nat):Nat×Nat:=[8,4,2,1].foldl (cj b) e
noncomputable def jj(b:List (Nat×Nat))(e:Nat×Nat):List (Nat×Nat):=b.take (jG b e.1)++e::b.drop (jG b e.1)
noncomputable def dz(s:List (Nat×Nat)×(Nat×Nat))(e:Nat×Nat):List (Nat×Nat)×(Nat×Nat):=(if 0<(cT s.1 e).1 then jj s.1 (cT s.1 e) else s.1,cT s.1 e)
noncomputable def kT(W:Nat→Nat)(sl hl:List Nat):List (Nat×Nat):=sl.map (fun h=>(W h,2^h))++[(cH W hl,0)]
noncomputable def gk(W:Nat→Nat)(sl hl:List Nat):List (Nat×Nat)×(Nat×Nat):=(kT W sl hl).foldl dz ([],(0,0))
theorem sO(h:gq b)(hc:b[i]?=some c):i<i6 b t↔c.1<t:=by
 have:=tU (P:=fun e:Nat×Nat=>decide (e.1<t)) b (h.imp (by intro a c hac hcc;simp at hcc ⊢;lia)) i c hc
 exact this.trans (by simp)
theorem vU(h:gq b)(hc:b[i]?=some c):i<jG b t↔c.1≤t:=by
 have:=tU (P:=fun e:Nat×Nat=>decide (e.1≤t)) b (h.imp (by intro a c hac hcc;simp at hcc ⊢;lia)) i c hc
 exact this.trans (by simp)
theorem Pz(b:List (Nat×Nat))(e:Nat×Nat):(jj b e).length=b.length+1:=by
 unfold jj;have:jG b e.1≤b.length:=countP_le_length;rw [List.length_append,length_cons,length_take,length_drop,min_eq_left this,←add_assoc,Nat.add_sub_cancel' this]
theorem uP{x:Nat×Nat}:x∈jj b e↔x=e∨x∈b:=by
 unfold jj;have h:x∈b↔x∈b.take (jG b e.1)∨x∈b.drop (jG b e.1):=by
  rw [←mem_append,List.take_append_drop]
 rw [h];simp only [mem_append,mem_cons];constructor
 ·rintro (h|h|h)
  ·exact .inr (.inl h)
  ·exact .inl h
  ·exact .inr (.inr h)
 ·rintro (h|h|h)
  ·exact .inr (.inl h)
  ·exact .inl h
  ·exact .inr (.inr h)
theorem ED(h:gq b):gq (jj b e):=by
 unfold gq jj;rw [List.pairwise_append,List.pairwise_cons];have h1:∀x∈b.take (jG b e.1),x.1≤e.1:=by
  intro x hx;refine aA (mem_iff_getElem?.mp hx) ?_;intro i hi;rw [List.getElem?_take] at hi
  split at hi
  ·rename_i hlt;exact (vU h hi).mp hlt
  ·cases hi
 have h2:∀x∈b.drop (jG b e.1),e.1≤x.1:=by
  intro x hx;refine aA (mem_iff_getElem?.mp hx) ?_;intro i hi;rw [List.getElem?_drop] at hi
  by_cases hc:x.1≤e.1
  ·have:=(vU h hi).mpr hc;lia
  ·lia
 refine⟨h.sublist (List.take_sublist _ _),⟨h2,h.sublist (List.drop_sublist _ _)⟩,?_⟩;intro x hx y hy;rw [mem_cons] at hy;rcases hy with rfl|hy
 ·exact h1 x hx
 ·exact le_trans (h1 x hx) (h2 y hy)
end
noncomputable def vQ(q:Str):Expr→fU:=AS ⟨⟨[],[],none,[],[],none,[]⟩,eU,FZ,[],q⟩ fun ps b sc Z=>⟨ps,b,sc,freeNames sc,q⟩
noncomputable def qe:b9:=fnOf "_law_makers" 179 178
noncomputable def Rp:List Stmt:=fnBody "_law_makers"
noncomputable def nN:Stmt:=sN (Rp.drop 1) 0
noncomputable def nO:Stmt:=sN (aW nN) 0
noncomputable def Fz:Stmt:=sN ((aW nN).drop 1) 0
noncomputable def Fy:Expr:=br (sN (aW nO) 0)
noncomputable def S1:fU:=vQ "_law_makers.<locals>.<lambda>" (rX (eN (bh Fy) 1))
noncomputable def S2:fU:=vQ "_law_makers.<locals>.<lambda>" (rX (br (sN (aW Fz) 0)))
theorem UR(k:Nat)(e:Nat×Nat)(σ:aa):(CC (k+1)).call (.aE S1 []) [dm e] none σ=some (nat e.1,σ):=by
 refine Eq.trans (b:=some (cD σ.length σ (nat e.1))) (by kernel_rfl!) (by rw [lF];exact 0)
theorem GR(k:Nat)(e:Nat×Nat)(σ:aa):(CC (k+1)).call (.aE S2 []) [dm e] none σ=some (nat e.1,σ):=by
 refine Eq.trans (b:=some (cD σ.length σ (nat e.1))) (by kernel_rfl!) (by rw [lF];exact 0)
noncomputable def cP(b:List (Nat×Nat)):bY:=.list (b.map dm)
noncomputable def Rq(sl hl:List Nat)(W:Nat→Nat)(m:Nat):List (Str×V):=[(("streets":Str),sub sl),(("here":Str),sub hl),(("ways":Str),wv W),(("basis":Str),.loc m)]
noncomputable def dQ(e:Nat×Nat):List (Str×V):=[(("row":Str),nat e.1),(("made":Str),nat e.2)]
noncomputable def kW(t:V):List (Str×V):=[(("top":Str),t)]
noncomputable def lg(t:V):List (Str×V):=[(("at":Str),t)]
noncomputable def EI(x:List (Str×V)):Prop:=x=[]∨∃u,x=lg u
noncomputable def lQ(x:List (Str×V)):Prop:=x=[]∨∃t u,x=kW t++lg u
noncomputable def mE(sl hl:List Nat)(W:Nat→Nat)(m:Nat)(x:List (Str×V)):ao:=aJ qe (Rq sl hl W m++x)
theorem BJ{b:List (Nat×Nat)}{i:Nat}{it:V}(h:(b.map dm)[i]?=some it):it=dm (b.getD i (0,0)):=by
 rw [getElem?_map] at h;refine aj (map_eq_some_iff.mp h) ?_;rintro c hc rfl;rw [getD_eq_getElem?_getD,hc];rfl
section
variable{sl hl:List Nat}{W:Nat→Nat}{m:Nat}{b:List (Nat×Nat)}{σ:aa}
theorem Rv(k:Nat)(hm:σ[m]?=some (cP b))(hs:gq b)(hb:b.length≤16)(e:Nat×Nat)(t:Nat)(ht:t=8∨t=4∨t=2∨t=1)(x:List (Str×V))(hx:EI x) :
 ∃u,aU (CC (k+2)) 95 (mE sl hl W m (dQ e++(kW (nat t)++x))) (aW nO) σ=some (.next,mE sl hl W m (dQ (cj b e t)++(kW (nat t)++lg u)),σ):=by
 have hlen:(b.map dm).length≤64:=by rw [length_map];exact le_trans hb (by decide)
 have hm':σ[m]?=some (.list (b.map dm)):=hm;have hcl:i6 b t≤b.length:=countP_le_length
 let p:=if e.1&&& t != 0 then i6 b t else b.length
 have hp:p≤b.length:=by show (if _ then _ else _)≤_;split;exact hcl;exact le_refl _
 refine⟨nat p,?_⟩;have hA:ak (CC (k+2)) 93 (mE sl hl W m (dQ e++(kW (nat t)++x))) Fy σ=some (nat p,σ):=by
  refine l9 (by kernel_rfl!) (b:=(e.1&&& t != 0)) (σ':=σ) ?_ ?_
  ·refine n8 (by kernel_rfl!) (v:=.int (Builtin.bitAnd (e.1:Int) (t:Int))) ?_ ?_
   ·rcases hx with rfl|⟨u,rfl⟩<;>kernel_rfl!
   ·rw [←tO];rfl
  ·show _=some (nat (if e.1&&& t != 0 then i6 b t else b.length),σ)
   cases hc:(e.1&&& t != 0) with
   | true=>
    rw [if_pos rfl,if_pos rfl];refine sH (by kernel_rfl!) (fv:=.base 132) (vs:=[.loc m,nat t]) (σ':=σ) ?_ ?_ (kv:=.aE S1 []) (bA:=σ) ?_ (Kc k (K:=fun i=>(b.getD i (0,0)).1) hm' hlen ?_ ?_ ?_ ?_)
    ·rcases hx with rfl|⟨u,rfl⟩<;>kernel_rfl!
    ·rcases hx with rfl|⟨u,rfl⟩<;>kernel_rfl!
    ·rcases hx with rfl|⟨u,rfl⟩<;>kernel_rfl!
    ·intro i it hi;rw [BJ hi];exact UR k _ σ
    ·rw [length_map];exact hcl
    ·intro i hi;have hlt:i<b.length:=by omega
     have h1:=(sO hs (t:=t) (getElem?_eq_getElem hlt)).mp hi;simpa [getD_eq_getElem?_getD,getElem?_eq_getElem hlt] using h1
    ·intro i h1 h2;rw [length_map] at h2;have h3:=mt (sO hs (t:=t) (getElem?_eq_getElem h2)).mpr (by omega)
     simpa [getD_eq_getElem?_getD,getElem?_eq_getElem h2] using h3
   | false=>
    rw [if_neg (by decide),if_neg (by decide)]
    have:=uX (k+1) (σ:=σ) hm' (lt_of_le_of_lt hlen (by decide))
    rw [length_map] at this;refine cN (by kernel_rfl!) (fv:=.bi "len") (vs:=[.loc m]) (σ':=σ) ?_ ?_ this
    ·rcases hx with rfl|⟨u,rfl⟩<;>kernel_rfl!
    ·rcases hx with rfl|⟨u,rfl⟩<;>kernel_rfl!
 refine aF (by kernel_rfl!) (az:=mE sl hl W m (dQ e++(kW (nat t)++lg (nat p)))) (σ':=σ) (dO (by kernel_rfl!) hA ?_) ?_
 ·rcases hx with rfl|⟨u,rfl⟩<;>kernel_rfl!
 have hL:aX (CC (k+2)) 91 (mE sl hl W m (dQ e++(kW (nat t)++lg (nat p)))) (eN (bh (bR (sN ((aW nO).drop 1) 0))) 0) σ=some (decide (p<b.length),σ):=by
  have Oo:=uX (k+1) (σ:=σ) hm' (lt_of_le_of_lt hlen (by decide))
  refine fF (by kernel_rfl!) (a:=nat p) (b:=nat (b.map dm).length) (σ':=σ) (by kernel_rfl!) (cN (by kernel_rfl!) (fv:=.bi "len") (vs:=[.loc m]) (σ':=σ) (by kernel_rfl!) (by kernel_rfl!) Oo) ?_
  rw [length_map];show some (decide _)=some (decide _);congr 2;exact propext ofNat_lt
 cases hq:b[p]? with
 | none=>
  have hpl:¬p<b.length:=by
   intro h;rw [getElem?_eq_getElem h] at hq;cases hq
  have hst:cj b e t=e:=by
   unfold cj;cases hc:(e.1&&& t != 0) with
   | true=>
    have:p=i6 b t:=by show (if _ then _ else _)=_;rw [if_pos hc]
    rw [if_pos rfl,←this,hq]
   | false=>rw [if_neg (by decide)]
  rw [hst];refine aF (by kernel_rfl!) (cL (by kernel_rfl!) (b:=false) (σ':=σ) (g6 (by kernel_rfl!) (l8 (by kernel_rfl!) (hL.trans (by rw [decide_eq_false hpl])))) (bC (by kernel_rfl!))) (bC (by kernel_rfl!))
 | some c=>
  have hpl:p<b.length:=(List.getElem?_eq_some_iff.mp hq).1;have yU:(b.map dm)[p]?=some (dm c):=by rw [getElem?_map,hq];rfl
  have hst:cj b e t=if c.1<2*t then (e.1^^^c.1,e.2^^^c.2) else e:=by
   unfold cj;cases hc:(e.1&&& t != 0) with
   | true=>
    have:p=i6 b t:=by show (if _ then _ else _)=_;rw [if_pos hc]
    rw [if_pos rfl,←this,hq]
   | false=>
    have:p=b.length:=by show (if _ then _ else _)=_;rw [hc];rfl
    omega
  rw [hst];have hT2:aX (CC (k+2)) 91 (mE sl hl W m (dQ e++(kW (nat t)++lg (nat p)))) (eN ((bh (bR (sN ((aW nO).drop 1) 0))).drop 1) 0) σ=some (decide (c.1<2*t),σ):=by
   refine fF (by kernel_rfl!) (a:=nat c.1) (b:=.int ((2:Int)*(t:Int))) (σ':=σ) (jW (by kernel_rfl!) (o:=dm c) (j:=0) (σ':=σ) (jW (by kernel_rfl!) (o:=.loc m) (j:=(p:Int)) (σ':=σ) (by kernel_rfl!) (by kernel_rfl!) ?_) (by kernel_rfl!) (by kernel_rfl!)) ?_ ?_
   ·rw [nH hm' (lt_of_lt_of_le hpl (le_trans hb (by decide)))];exact yU
   ·rcases ht with rfl|rfl|rfl|rfl<;>kernel_rfl!
   ·show some (decide _)=some (decide _);congr 2;exact propext ofNat_lt
  by_cases hc:c.1<2*t
  ·rw [if_pos hc];refine aF (by kernel_rfl!) (cL (by kernel_rfl!) (b:=true) (σ':=σ) (g6 (by kernel_rfl!) (gZ (by kernel_rfl!) (hL.trans (by rw [decide_eq_true hpl])) (gZ (by kernel_rfl!) (hT2.trans (by rw [decide_eq_true hc])) (Ae (by kernel_rfl!))))) (aF (by kernel_rfl!) (az:=mE sl hl W m (dQ (e.1^^^c.1,e.2^^^c.2)++(kW (nat t)++lg (nat p)))) (σ':=σ) ?_ (bC (by kernel_rfl!)))) (bC (by kernel_rfl!))
   refine Af (by kernel_rfl!) (v:=dm (e.1^^^c.1,e.2^^^c.2)) (σ':=σ) (GA (vs:=[nat (e.1^^^c.1),nat (e.2^^^c.2)]) (by kernel_rfl!) (eV (σ':=σ) (by kernel_rfl!) ?_ (eV (σ':=σ) (by kernel_rfl!) ?_ (i9 (by kernel_rfl!)))) (show 2≤sizeLine by decide)) rfl (by kernel_rfl!)
   ·refine fZ (by kernel_rfl!) (a:=nat e.1) (b:=nat c.1) (σ':=σ) (by kernel_rfl!) (jW (by kernel_rfl!) (o:=dm c) (j:=0) (σ':=σ) (jW (by kernel_rfl!) (o:=.loc m) (j:=(p:Int)) (σ':=σ) (by kernel_rfl!) (by kernel_rfl!) ?_) (by kernel_rfl!) (by kernel_rfl!)) (AZ σ _ _)
    rw [nH hm' (lt_of_lt_of_le hpl (le_trans hb (by decide)))];exact yU
   ·refine fZ (by kernel_rfl!) (a:=nat e.2) (b:=nat c.2) (σ':=σ) (by kernel_rfl!) (jW (by kernel_rfl!) (o:=dm c) (j:=1) (σ':=σ) (jW (by kernel_rfl!) (o:=.loc m) (j:=(p:Int)) (σ':=σ) (by kernel_rfl!) (by kernel_rfl!) ?_) (by kernel_rfl!) (by kernel_rfl!)) (AZ σ _ _)
    rw [nH hm' (lt_of_lt_of_le hpl (le_trans hb (by decide)))];exact yU
  ·rw [if_neg hc];refine aF (by kernel_rfl!) (cL (by kernel_rfl!) (b:=false) (σ':=σ) (g6 (by kernel_rfl!) (gZ (by kernel_rfl!) (hL.trans (by rw [decide_eq_true hpl])) (l8 (by kernel_rfl!) (hT2.trans (by rw [decide_eq_false hc]))))) (bC (by kernel_rfl!))) (bC (by kernel_rfl!))
theorem pC{α β:Type}(f:β→α→β)(b:β)(l:List α)(a:α):(l++[a]).foldl f b=f (l.foldl f b) a:=by simp
theorem VX{done rest:List Nat}{t:Nat}(h:[8,4,2,1]=done++t::rest):t=8∨t=4∨t=2∨t=1:=by
 have:t∈[8,4,2,1]:=by rw [h];simp
 simpa using this
theorem Rw(k:Nat)(hm:σ[m]?=some (cP b))(hs:gq b)(hb:b.length≤16)(e:Nat×Nat)(x:List (Str×V))(hx:lQ x) :
 ∃y,lQ y∧aZ (CC (k+2)) 96 (mE sl hl W m (dQ e++x)) nO σ=some (.next,mE sl hl W m (dQ (cT b e)++y),σ):=by
 obtain⟨cG,σ2,⟨rfl,y,hy,rfl⟩,h⟩:=iP (C:=CC (k+2)) (n:=94) (st:=nO) (me:=mE sl hl W m (dQ e++x)) (σ:=σ) (σ':=σ) (g:=nat) (L:=[8,4,2,1])
  (fun done me s=>s=σ∧∃y,lQ y∧me=mE sl hl W m (dQ (done.foldl (cj b) e)++y))
  (by kernel_rfl!) (by rcases hx with rfl|⟨t,u,rfl⟩<;>kernel_rfl!) (by rcases hx with rfl|⟨t,u,rfl⟩<;>kernel_rfl!) (by kernel_rfl!) ⟨rfl,x,hx,rfl⟩
  (fun done t rest me s hL hI=>by
   obtain⟨rfl,y,hy,rfl⟩:=hI;rw [pC];obtain⟨z,hz,h1⟩:∃z,EI z∧cM (mE sl hl W m (dQ (done.foldl (cj b) e)++y)) (bR nO) (nat t)=some (mE sl hl W m (dQ (done.foldl (cj b) e)++(kW (nat t)++z))):=by
    rcases hy with rfl|⟨t',u,rfl⟩
    ·exact⟨[],.inl rfl,by kernel_rfl!⟩
    ·exact⟨lg u,.inr ⟨u,rfl⟩,by kernel_rfl!⟩
   obtain⟨u,h2⟩:=Rv k hm hs hb (done.foldl (cj b) e) t (VX hL) z hz;exact⟨_,_,_,h1,h2,rfl,_,.inr ⟨_,_,rfl⟩,rfl⟩)
 exact⟨y,hy,h⟩
theorem Rt(k:Nat)(hm:σ[m]?=some (cP b))(hs:gq b)(hb:b.length≤16)(e e0:Nat×Nat)(x:List (Str×V))(hx:lQ x) :
 ∃y,lQ y∧aU (CC (k+3)) 97 (mE sl hl W m (dQ e++x)) (aW nN) σ=some (.next,mE sl hl W m (dQ (dz (b,e0) e).2++y),σ.set m (cP (dz (b,e0) e).1)):=by
 refine aj (Rw (sl:=sl) (hl:=hl) (W:=W) (k+1) hm hs hb e x hx) ?_;intro y hy h1;refine⟨y,hy,aF (by kernel_rfl!) h1 ?_⟩
 have ht:aX (CC (k+3)) 94 (mE sl hl W m (dQ (cT b e)++y)) (bR Fz) σ=some (decide (0<(cT b e).1),σ):=by
  refine fF (by kernel_rfl!) (a:=nat (cT b e).1) (b:=nat 0) (σ':=σ) ?_ ?_ ?_
  ·rcases hy with rfl|⟨t,u,rfl⟩<;>kernel_rfl!
  ·rcases hy with rfl|⟨t,u,rfl⟩<;>kernel_rfl!
  ·show some (decide _)=some (decide _);congr 2;exact propext ofNat_lt
 show _=some (Fl.next,mE sl hl W m (dQ (cT b e)++y),σ.set m (cP (if 0<(cT b e).1 then jj b (cT b e) else b)))
 by_cases hc:0<(cT b e).1
 ·rw [if_pos hc];refine aF (by kernel_rfl!) (cL (by kernel_rfl!) (b:=true) (σ':=σ) (ht.trans (by rw [decide_eq_true hc])) (aF (by kernel_rfl!) (n7 (by kernel_rfl!) (sH (by kernel_rfl!) (fv:=.base 114) (vs:=[.loc m,dm (cT b e)]) (σ':=σ) ?_ ?_ (kv:=.aE S2 []) (bA:=σ) ?_ ?hc)) (bC (by kernel_rfl!)))) (bC (by kernel_rfl!))
  ·rcases hy with rfl|⟨t,u,rfl⟩<;>kernel_rfl!
  ·rcases hy with rfl|⟨t,u,rfl⟩<;>kernel_rfl!
  ·rcases hy with rfl|⟨t,u,rfl⟩<;>kernel_rfl!
  case hc=>
   have hlen:(b.map dm).length≤64:=by rw [length_map];exact le_trans hb (by decide)
   have:=EE k (S:=S2) (caps:=[]) (items:=b.map dm) (m:=m) (x:=dm (cT b e)) (kx:=(cT b e).1) (p:=jG b (cT b e).1) (K:=fun i=>(b.getD i (0,0)).1) (σ:=σ) hm hlen rfl (GR (k+1) _ σ) (fun i it hi=>by rw [BJ hi];exact GR k _ σ)
    (by rw [length_map];exact countP_le_length)
    (fun i hi=>by
     have hcl:jG b (cT b e).1≤b.length:=countP_le_length;have hlt:i<b.length:=by lia
     have h1:=(vU hs (t:=(cT b e).1) (getElem?_eq_getElem hlt)).mp hi;simpa [getD_eq_getElem?_getD,getElem?_eq_getElem hlt] using h1)
    (fun i h1 h2=>by
     rw [length_map] at h2;have h3:=mt (vU hs (t:=(cT b e).1) (getElem?_eq_getElem h2)).mpr (by lia)
     simpa [getD_eq_getElem?_getD,getElem?_eq_getElem h2] using h3)
   rw [this];unfold jj cP;rw [map_append,map_cons,List.map_take,List.map_drop]
 ·rw [if_neg hc];have:σ.set m (cP b)=σ:=by
   apply List.ext_getElem?;intro i;rw [List.getElem?_set]
   split
   ·rename_i h;subst h
    split
    ·exact hm.symm
    ·rename_i h';rw [List.getElem?_eq_none (by lia)]
   ·rfl
  rw [this];exact aF (by kernel_rfl!) (cL (by kernel_rfl!) (b:=false) (σ':=σ) (ht.trans (by rw [decide_eq_false hc])) (bC (by kernel_rfl!))) (bC (by kernel_rfl!))
end
theorem UK{s:List (Nat×Nat)×(Nat×Nat)}(e:Nat×Nat)(h:gq s.1):gq (dz s e).1∧(dz s e).1.length≤s.1.length+1:=by
 unfold dz
 split
 ·exact⟨ED h,by simp only [Pz];exact le_refl _⟩
 ·exact⟨h,le_succ _⟩
theorem UM(l:List (Nat×Nat)):gq (l.foldl dz ([],(0,0))).1∧(l.foldl dz ([],(0,0))).1.length≤l.length:=by
 have:∀(l:List (Nat×Nat)) s,gq s.1→gq (l.foldl dz s).1∧(l.foldl dz s).1.length≤s.1.length+l.length:=by
  intro l
  induction l with
  | nil=>intro s h;exact⟨h,by simp⟩
  | cons a r ih=>intro s h;refine au (UK a h) ?_;intro h1 h2;refine au (ih _ h1) ?_;intro h3 h4;refine⟨h3,?_⟩;rw [foldl_cons];exact le_trans h4 (by rw [length_cons,←add_assoc,Nat.add_right_comm];exact Nat.add_le_add_right h2 _)
 have h:=this l ([],(0,0)) Pairwise.nil;simpa using h
noncomputable def dU(σ:aa):Prop:=σ.all (bY.under σ.length)=true
theorem V6(n:Nat)(l:List Nat):V.fG n (l.map nat)=true:=by
 induction l with
 | nil=>rfl
 | cons a r ih=>show (true&&V.fG n (r.map nat))=true;rw [ih];rfl
theorem MG{σ:aa}(h:dU σ)(x:aa)(l:List Nat):cD σ.length (σ++x) (sub l)=(sub l,σ):=by
 unfold cD;rw [take_left];have e1:j9 σ.length (σ++x) (sub l)=sub l:=rfl;rw [e1,show (sub l).under σ.length=true from V6 _ l,h];rfl
theorem U4(d h:Nat)(hh:h<5):fdiv (d:Int) (2^h)=((d/2^h:Nat):Int):=by
 rw [Int.fdiv_eq_ediv_of_nonneg _ (by
  have:(0:Int)<2^h:=Int.pow_pos (by decide)
  lia)]
 rw [Int.natCast_ediv,Int.natCast_pow];rfl
theorem J8(d h:Nat)(hh:h<5):decide (Builtin.bitAnd (fdiv (d:Int) (2^h)) 1≠0)=d.testBit h:=by
 rw [U4 d h hh];have:=tO (d/2^h) 1;rw [show ((1:Nat):Int)=1 from rfl] at this;rw [this,Nat.testBit,Nat.shiftRight_eq_div_pow,Nat.and_comm]
theorem Rr(k:Nat)(sl hl:List Nat)(W:Nat→Nat){σ:aa}(hσ:dU σ)(h1:∀j∈sl,j<5)(h2:∀j∈hl,j<5)(h3:sl.length≤10)(h4:hl.length≤8) :
 (CC (k+4)).call (.base 179) [sub sl,sub hl,wv W] none σ=some (sub (sl.filter fun h=>(gk W sl hl).2.2.testBit h),σ):=by
 have hget:∀b,(σ++[cP b])[σ.length]?=some (cP b):=fun b=>by simp
 have gh:∀b b',(σ++[cP b]).set σ.length (cP b')=σ++[cP b']:=fun b b'=>by simp
 have e0:aJ qe [(("streets":Str),sub sl),(("here":Str),sub hl),(("ways":Str),wv W)]=aJ qe [(("streets":Str),sub sl),(("here":Str),sub hl),(("ways":Str),wv W)]:=rfl;obtain⟨y,hy,hl2⟩:∃y,lQ y∧aZ (CC (k+3)) 98 (mE sl hl W σ.length []) nN (σ++[cP []])=some (.next,mE sl hl W σ.length (dQ (gk W sl hl).2++y),σ++[cP (gk W sl hl).1]):=by
  have hi:dD (ak (CC (k+3)) 97) (CC (k+3)) (mE sl hl W σ.length []) (br nN) (σ++[cP []])=some ((kT W sl hl).map dm,σ++[cP []]):=by
   have hlen:((kT W sl hl).map dm).length≤11:=by simp [kT];lia
   refine g8 (by kernel_rfl!) (fZ (by kernel_rfl!) (a:=.lst (sl.map fun h=>dm (W h,2^h))) (b:=.lst [dm (cH W hl,0)]) (σ':=σ++[cP []]) ?_ ?_ ?_) (by lia) (by rw [eX];intro v hv;refine aj (mem_map.mp hv) ?_;rintro i _ rfl;rfl)
   ·refine kR (l:=sl) (g:=nat) (σ':=σ++[cP []]) _ (by kernel_rfl!) (g8 (by kernel_rfl!) (by kernel_rfl!) (by simp;lia) (cW sl)) (fun Z Z=>rfl) ?_ (fun Z Z=>rfl) (by rw [show sizeLine=2^24 from rfl];lia)
    intro j hj;have hj':=h1 j hj;clear hj;revert j;refine b8 ?_ ?_ ?_ ?_ ?_<;>kernel_rfl!
   ·refine Un (by kernel_rfl!) (eV (σ':=σ++[cP []]) (by kernel_rfl!) (GA (vs:=[nat (cH W hl),nat 0]) (by kernel_rfl!) (eV (σ':=σ++[cP []]) (by kernel_rfl!) (cN (by kernel_rfl!) (fv:=.base 164) (vs:=[sub hl,wv W]) (σ':=σ++[cP []]) (by kernel_rfl!) (by kernel_rfl!) (FE (k+2) W hl h2 (by lia) _)) (by kernel_rfl!)) (show 2≤sizeLine by decide)) (i9 (by kernel_rfl!))) (show 1≤sizeLine by decide)
   ·show iC _ .Add (.lst _) (.lst _)=_;rw [add_lists rfl (by simp;rw [show sizeLine=2^24 from rfl];lia)]
    unfold kT;rw [map_append,map_map];rfl
  obtain⟨cG,σ2,⟨rfl,kj⟩,h⟩:=iP (C:=CC (k+3)) (n:=96) (st:=nN) (me:=mE sl hl W σ.length []) (σ:=σ++[cP []]) (σ':=σ++[cP []]) (g:=dm) (L:=kT W sl hl)
   (fun done me s'=>s'=σ++[cP (done.foldl dz ([],(0,0))).1]∧(me=mE sl hl W σ.length []∧done=[]∨∃y,lQ y∧me=mE sl hl W σ.length (dQ (done.foldl dz ([],(0,0))).2++y)))
   (by kernel_rfl!) (by kernel_rfl!) hi (by kernel_rfl!) ⟨rfl,.inl ⟨rfl,rfl⟩⟩
   (fun done e rest me s' hL hI=>by
    refine au hI ?_;clear hI;rintro rfl kj;refine au (UM done) ?_;intro g1 g2;have hdl:done.length≤11:=by
     have h5:=congrArg length hL;simp [kT] at h5;lia
    obtain⟨z,hz,ha⟩:∃z,lQ z∧cM me (bR nN) (dm e)=some (mE sl hl W σ.length (dQ e++z)):=by
     rcases kj with⟨rfl,_⟩|⟨y,hy,rfl⟩
     ·exact⟨[],.inl rfl,by kernel_rfl!⟩
     ·exact⟨y,hy,by rcases hy with rfl|⟨t,u,rfl⟩<;>kernel_rfl!⟩
    refine aj (Rt (sl:=sl) (hl:=hl) (W:=W) k (hget (done.foldl dz ([],(0,0))).1) g1 (by lia) e (done.foldl dz ([],(0,0))).2 z hz) ?_;intro y hy hr
    rw [gh] at hr;refine⟨_,_,_,ha,hr,?_,.inr ⟨y,hy,?_⟩⟩<;>rw [pC])
  rcases kj with⟨_,Ov⟩|⟨y,hy,rfl⟩
  ·simp [kT] at Ov
  ·exact⟨y,hy,h⟩
 have hx:aU (CC (k+3)) 100 (aJ qe [(("streets":Str),sub sl),(("here":Str),sub hl),(("ways":Str),wv W)]) qe.body σ=some (.ret (sub (sl.filter fun h=>(gk W sl hl).2.2.testBit h)),mE sl hl W σ.length (dQ (gk W sl hl).2++y),σ++[cP (gk W sl hl).1]):=by
  refine aF (by kernel_rfl!) (az:=mE sl hl W σ.length []) (σ':=σ++[cP []]) (by kernel_rfl!) ?_
  refine aF (by kernel_rfl!) hl2 ?_
  refine gD (by kernel_rfl!) (gF (by kernel_rfl!) ?_)
  generalize (gk W sl hl).2=e;refine n6 (l:=sl) (g:=nat) (σ':=σ++[cP (gk W sl hl).1]) (fun h=>e.2.testBit h) nat ?_ ?_ (fun Z Z=>rfl) ?_ ?_ (fun Z Z Z=>rfl) (by rw [show sizeLine=2^24 from rfl];lia)
  ·rcases hy with rfl|⟨t,u,rfl⟩<;>kernel_rfl!
  ·refine g8 (by kernel_rfl!) ?_ (by simp;lia) (cW sl)
   rcases hy with rfl|⟨t,u,rfl⟩<;>kernel_rfl!
  ·intro j hj;have hj':=h1 j hj;clear hj;refine qt (by kernel_rfl!) ?_
   show _=some (e.2.testBit j,_);rw [←J8 e.2 j hj'];revert j;rcases hy with rfl|⟨t,u,rfl⟩<;>refine b8 ?_ ?_ ?_ ?_ ?_<;>kernel_rfl!
  ·intro j hj _;rcases hy with rfl|⟨t,u,rfl⟩<;>kernel_rfl!
 rw [gC (f:=qe) (bs:=[(("streets":Str),sub sl),(("here":Str),sub hl),(("ways":Str),wv W)]) (by kernel_rfl!) (by kernel_rfl!) (F8 (by kernel_rfl!) (by simp [cW,Gq])) hx,MG hσ]
section
open PySem.StrLaws PySem.Builtin.Str
noncomputable def cZ:List (List Nat)→List Nat
 | []=>[]
 | [w]=>w
 | w::v::r=>w++44::32::cZ (v::r)
noncomputable def lB:Nat→List (List Nat)→List Nat
 | _,[]=>[]
 | _,[_]=>[]
 | a,w::v::r=>(a+w.length)::lB (a+w.length+2) (v::r)
section
variable{x y:Str}(hy:y.cps.toList=[44,32]){lim:Nat}
include hy
omit hy in
theorem yl(hy:y.cps.toList=[44,32]):y.length=2:=by
 have:=congrArg length hy;simpa [Str.length] using this
theorem zS{i:Nat}{st:Array Nat×Nat}(h:¬(i+2≤x.length∧(x.cps.toList.drop i).take 2=[44,32]∧st.2≤i))(l:List Nat):forIn (i::l) st (occBody x y x.length lim)=forIn l st (occBody x y x.length lim):=by
 rw [forIn_cons];unfold occBody;rw [if_neg]
 ·rfl
 ·intro hh;refine au hh ?_;clear hh;intro hh;refine au hh ?_;clear hh;intro hh;refine au hh ?_;clear hh;intro _ h1;intro h2;intro h3;rw [subAt_eq,yl hy,hy] at h3;rw [yl hy] at h2;exact h ⟨h2,eq_of_beq h3,h1⟩
theorem SA{i:Nat}{st:Array Nat×Nat}(h0:st.1.size<lim)(h1:st.2≤i)(h2:i+2≤x.length)(h3:(x.cps.toList.drop i).take 2=[44,32])(l:List Nat):forIn (i::l) st (occBody x y x.length lim)=forIn l (st.1.push i,i+2) (occBody x y x.length lim):=by
 rw [forIn_cons];unfold occBody;rw [if_pos]
 ·show forIn l (st.1.push i,i+y.length) (occBody x y x.length lim)=forIn l (st.1.push i,i+2) (occBody x y x.length lim);rw [yl hy]
 ·refine⟨⟨⟨h0,h1⟩,by rw [yl hy];exact h2⟩,?_⟩
  rw [subAt_eq,yl hy,hy,h3];rfl
theorem F7:∀(w T:List Nat) (i m:Nat) (st:Array Nat×Nat),44∉w→x.cps.toList.drop i=w++T→forIn (range' i (w.length+m)) st (occBody x y x.length lim)=forIn (range' (i+w.length) m) st (occBody x y x.length lim):=by
 intro w
 induction w with
 | nil=>intro T i m st _ _;simp
 | cons c w rc=>
  intro T i m st hn hd;have e:(c::w).length+m=(w.length+m)+1:=by simp;lia
  rw [e,range'_succ,zS hy]
  ·have hd':x.cps.toList.drop (i+1)=w++T:=by
    rw [←drop_drop,hd];rfl
   rw [rc T (i+1) m st (fun h=>hn (mem_cons_of_mem _ h)) hd'];congr 2;simp;lia
  ·intro hh;refine bO hh ?_;clear hh;intro _ h _;rw [hd] at h;have:c=44:=by
    rw [List.cons_append,List.take_succ_cons] at h;injection h
   exact hn (this▸mem_cons_self)
theorem Sz:∀(W:List (List Nat)) (a:Nat) (st:Array Nat×Nat),W≠[]→(∀w∈W,44∉w)→x.cps.toList.drop a=cZ W→a+(cZ W).length=x.length→st.2≤a→st.1.size≤a→x.length<lim→
 (forIn (range' a ((cZ W).length+1)) st (occBody x y x.length lim):Id (Array Nat×Nat)).run.fst.toList=st.1.toList++lB a W:=by
 intro W
 induction W with
 | nil=>intro _ _ h;exact absurd rfl h
 | cons w r rc=>
  intro a st _ hn hd hl h2 hs hlim;cases r with
  | nil=>
   show (forIn (range' a (w.length+1)) st _:Id _).run.fst.toList=st.1.toList++[];rw [F7 hy w [] a 1 st (hn w mem_cons_self) (by rw [hd];simp [cZ])]
   rw [range'_succ,zS hy]
   ·simp
   ·intro hh;refine bO hh ?_;clear hh;intro h _ _;have:(cZ [w]).length=w.length:=rfl;lia
  | cons v r=>
   have e:cZ (w::v::r)=w++44::32::cZ (v::r):=rfl;have el:(cZ (w::v::r)).length=w.length+(2+(cZ (v::r)).length):=by rw [e];simp;lia
   rw [el,show w.length+(2+(cZ (v::r)).length)+1=w.length+((cZ (v::r)).length+1+1+1) by lia]
   rw [F7 hy w _ a _ st (hn w mem_cons_self) (hd.trans e)];have hd2:x.cps.toList.drop (a+w.length)=44::32::cZ (v::r):=by
    rw [←drop_drop,hd,e,List.drop_left]
   rw [range'_succ,SA hy (by lia) (by lia) (by lia) (by rw [hd2];rfl)]
   rw [range'_succ,zS hy]
   ·rw [rc (a+w.length+1+1) _ (by simp) (fun u hu=>hn u (mem_cons_of_mem _ hu))]
    ·show (st.1.push (a+w.length)).toList++_=_;rw [toList_push];show _=st.1.toList++((a+w.length)::lB (a+w.length+2) (v::r));simp
    ·have:x.cps.toList.drop (a+w.length+2)=cZ (v::r):=by
      rw [←drop_drop,hd2];rfl
     exact this
    ·lia
    ·show a+w.length+2≤_;lia
    ·show (st.1.push _).size≤_;rw [Array.size_push];lia
    ·exact hlim
   ·intro hh;refine bO hh ?_;clear hh;intro _ _ h;simp at h
theorem Tw:∀(W:List (List Nat)) (ws:List Str) (a:Nat),W≠[]→ws.map (fun w=>w.cps.toList)=W→x.cps.toList.drop a=cZ W→a+(cZ W).length=x.length→partsFrom x 2 a (lB a W)=ws:=by
 intro W
 induction W with
 | nil=>intro _ _ h;exact absurd rfl h
 | cons w r rc=>
  intro ws a _ hw hd hl;cases ws with
  | nil=>exact nomatch hw
  | cons u us=>
   injection hw with hw kC
   cases r with
   | nil=>
    cases us with
    | cons=>exact nomatch kC
    | nil=>
    show [strSub x a x.length]=[u];congr 1;apply ext';apply toList_inj.mp;have hw:u.cps.toList=w:=hw;rw [strSub_toList,hd,hw];show w.take _=w;exact take_of_length_le (Nat.le_sub_of_add_le (by rw [add_comm];exact le_of_eq hl))
   | cons v r=>
    have e:cZ (w::v::r)=w++44::32::cZ (v::r):=rfl;have el:(cZ (w::v::r)).length=w.length+(2+(cZ (v::r)).length):=by rw [e];simp;lia
    have hd2:x.cps.toList.drop (a+w.length)=44::32::cZ (v::r):=by
     rw [←drop_drop,hd,e,List.drop_left]
    show strSub x a (a+w.length)::partsFrom x 2 (a+w.length+2) (lB (a+w.length+2) (v::r))=u::us;congr 1
    ·apply ext';apply toList_inj.mp;have hw:u.cps.toList=w:=hw;rw [strSub_toList,hd,hw,e,Nat.add_sub_cancel_left,take_left]
    ·refine rc us (a+w.length+2) (by simp) kC ?_ (by rw [←hl,el];simp only [add_assoc])
     rw [←drop_drop,hd2];rfl
end
theorem join_list{y:Str}(hy:y.cps.toList=[44,32]):∀ws:List Str,(Txt.join y ws).cps.toList=cZ (ws.map fun w=>w.cps.toList):=by
 intro ws;show (glued y ws).cps.toList=_;rw [StrLaws.glued_eq_join]
 induction ws with
 | nil=>rfl
 | cons w r ih=>
  cases r with
  | nil=>rfl
  | cons v r=>show (w++y++join y (v::r)).cps.toList=_;simp only [Str.cps_append,toList_append];rw [ih,hy];simp [cZ]
theorem Vf{y:Str}(hy:y.cps.toList=[44,32]){ws:List Str}(h0:ws≠[])(hn:∀w∈ws,44∉w.cps.toList):Txt.split (Txt.join y ws) y=ws:=by
 have hL:=join_list hy ws;generalize Txt.join y ws=x at hL;have hW:ws.map (fun w=>w.cps.toList)≠[]:=by simpa using h0
 have hlen:x.length=(cZ (ws.map fun w=>w.cps.toList)).length:=by rw [←hL];simp [Str.length]
 have ho:occurrences x y 0 x.length (x.length+1)=lB 0 (ws.map fun w=>w.cps.toList):=by
  rw [occ_eq];have:=Sz (x:=x) hy (lim:=x.length+1) (ws.map fun w=>w.cps.toList) 0 (#[],0) hW (by simpa using hn) (by rw [hL];rfl) (by lia) (le_refl _) (by simp) (by lia)
  rw [Nat.sub_zero,hlen];rw [hlen] at this;exact this
 have hp:=Tw (x:=x) hy (ws.map fun w=>w.cps.toList) ws 0 hW rfl (by rw [hL];rfl) (by lia)
 have hp1:∀w,ws=[w]→[x]=ws:=by
  intro w hw;rw [hw] at hp ⊢;simp only [map_cons,map_nil,lB,partsFrom] at hp;rw [sub_whole] at hp;exact hp
 unfold Txt.split
 split
 ·rename_i h;rw [or_eq_true,decide_eq_true_eq,decide_eq_true_eq] at h;rcases ws with _|⟨w,_|⟨v,r⟩⟩
  ·exact absurd rfl h0
  ·exact hp1 w rfl
  ·rcases h with h|h
   ·rw [yl hy,hlen] at h;simp [cZ] at h;lia
   ·exfalso;have:Builtin.Str.strKind y=1:=by
     unfold Builtin.Str.strKind;rw [if_pos];rw [←Array.all_toList,hy];decide
    rw [this] at h;unfold Builtin.Str.strKind at h
    split at h
    ·lia
    ·split at h<;>lia
 ·rw [ho]
  split
  ·rename_i h;rcases ws with _|⟨w,_|⟨v,r⟩⟩
   ·exact absurd rfl h0
   ·exact hp1 w rfl
   ·simp [lB] at h
  ·rw [partsBetween_eq,yl hy];exact hp
end
section
variable{C:Calls}{n:Nat}{me az:ao}{st:Stmt}{e:Expr}{σ σ' bA:aa}{v w:V}
noncomputable def PV:Stmt→Bool:=oA false fun t Z Z Z=>eS false (fun Z Z=>true) t
noncomputable def tK:Stmt→Operator:=oA .Add fun Z o Z Z=>o
theorem Ag{old r:V}(h:PV st=true)(ho:cy C me (vm st)=some old)(he:ak C n me (br st) σ=some (v,σ'))(ha:mU (tK st) old v=some r)(hs:iA me (mS st) r=some az):aZ C (n+1) me st σ=some (.next,az,σ'):=by
 refine fu (Ep bF h) ?_;rintro t o e p rfl h2;refine bK (jh bF h2) ?_;rintro x q rfl -;exact aK (x:=cy C me x) ho (aK (x:=ak C n me e σ) he (aK ha (cS hs rfl)))
noncomputable def EK:Expr→Bool:=AW false fun o Z Z=>decide (o=.Not)
theorem Gz{b:Bool}(h:EK e=true)(ht:aX C n me (eN (bh e) 0) σ=some (b,σ')):aX C (n+1) me e σ=some (!b,σ'):=by
 refine bG (Ew bF h) ?_;rintro o x p rfl h2;exact (if_pos (of_decide_eq_true h2)).trans (cS (x:=aX C n me x σ) ht rfl)
theorem Ak{b:List Stmt}{fl:Fl}(h:b.isEmpty=false)(hf:(match fl with | .next=>false|_=>true)=true)(he:aZ C n me (sN b 0) σ=some (fl,az,σ')):aU C (n+1) me b σ=some (fl,az,σ'):=by
 cases b with
 | nil=>cases h
 | cons s r=>
  refine aK (x:=aZ C n me s σ) he ?_;cases fl with
  | next=>exact ff hf
  | _=>rfl
theorem xd(k:Nat){m:Nat}{l:List V}{u:V}(h:σ[m]?=some (.list l))(hu:u.plain=true)(hl:l.length≤1000):(CC (k+1)).call (.bi "list.append") [.loc m,u] none σ=some (.none,σ.set m (.list (l++[u]))):=by
 show xj [.loc m,u] σ=_;exact aK rfl (aK rfl (aK (uZ h) (if_pos ⟨hu,by rw [show sizeLine=2^24 from rfl];lia⟩)))
theorem Ao(k:Nat){m:Nat}{l:List V}{nm:Str}(h:σ[m]?=some (.list l)):(CC (k+1)).res (.loc m) nm σ=rZ nm:=by
 show (σ[m]?).bind _=_;exact aK h rfl
end
theorem vP(σ:aa)(i:Nat)(h:i≤64):iC σ .LShift (nat 1) (nat i)=some (nat (2^i)):=by
 have e:kE .LShift ((1:Nat):Int) (i:Int)=some (((2^i:Nat):Int)):=by
  show (if 0≤(i:Int)∧(i:Int)≤64∧Int.natAbs ((1:Nat):Int)<2^64 then some (((1:Nat):Int)*2^(i:Int).toNat) else none)=_
  rw [if_pos ⟨by lia,by lia,by decide⟩,toNat_natCast]
  congr 1;rw [Int.natCast_pow];simp
 show ((kE .LShift ((1:Nat):Int) (i:Int)).map V.int).or _=_;rw [e];rfl
noncomputable def word(i:Nat):Str:=(um.lookup ((2^i:Nat):Int)).getD (baseText "0x" 16 ((2^i:Nat):Int))
noncomputable def dN:List Nat→Nat→List Str→List Str
 | [],F,ns=>ns++[baseText "0x" 16 (F:Int)]
 | i::r,F,ns=>if F&&& 2^i != 0 then (if F^^^2^i != 0 then dN r (F^^^2^i) (ns++[word i]) else ns++[word i]) else dN r F ns
noncomputable def lZ:List Nat→Nat→Bool
 | [],F=>F==0
 | i::r,F=>if F&&& 2^i != 0 then (if F^^^2^i != 0 then lZ r (F^^^2^i) else true) else lZ r F
noncomputable def ug:b9:=fnOf "pretty_flags" 140 139
noncomputable def MJ:List Stmt:=fnBody "pretty_flags"
noncomputable def gR:Stmt:=sN (MJ.drop 1) 0
noncomputable def dM(F m:Nat)(x:List (Str×V)):ao:=aJ ug ([(("flags":Str),nat F),(("names":Str),.loc m)]++x)
noncomputable def x8(x:List (Str×V)):Prop:=x=[]∨∃i j,x=[(("i":Str),i),(("flag":Str),j)]
noncomputable def bE(ns:List Str):bY:=.list (ns.map V.str)
theorem N5:∀i<32,(baseText "0x" 16 ((2^i:Nat):Int)).length≤20:=by decide+kernel
theorem AJ(σ:aa)(a b:Nat):gr σ (.int (Builtin.bitAnd (a:Int) (b:Int)))=some (a&&& b != 0):=by
 rw [←tO];rfl
theorem MR(k:Nat)(σ:aa):∀(is:List Nat) (F:Nat) (ns:List Str) (x:List (Str×V)),x8 x→(∀i∈is,i<32)→lZ is F=true→ns.length+is.length≤40→
 ∃F' y,x8 y∧m5 (aU (CC (k+1)) 97) (bR gR) (aW gR) (iS gR) (is.map nat) (dM F σ.length x) (σ++[bE ns])=some (.next,dM F' σ.length y,σ++[bE (dN is F ns)]):=by
 intro is
 induction is with
 | nil=>
  intro F ns x hx _ ho hl;have hF:F=0:=of_decide_eq_true ho;subst hF;refine⟨0,x,hx,?_⟩;show aU (CC (k+1)) 97 (dM 0 σ.length x) (iS gR) (σ++[bE ns])=_;have hget:(σ++[bE ns])[σ.length]?=some (.list (ns.map V.str)):=by simp [bE]
  have hap:=xd k (u:=.str (baseText "0x" 16 ((0:Nat):Int))) hget rfl (by rw [length_map];lia)
  have gh:(σ++[bE ns]).set σ.length (.list (ns.map V.str++[.str (baseText "0x" 16 ((0:Nat):Int))]))=σ++[bE (dN [] 0 ns)]:=by
   show _=σ++[bE (ns++[baseText "0x" 16 ((0:Nat):Int)])];simp [bE]
  rw [gh] at hap;refine aF (by kernel_rfl!) (n7 (by kernel_rfl!) (jX (by kernel_rfl!) (ov:=.loc σ.length) (σ':=σ++[bE ns]) ?_ (f:=.bi "list.append") ((Ao k hget).trans (by kernel_rfl!)) (vs:=[.str (baseText "0x" 16 ((0:Nat):Int))]) (bA:=σ++[bE ns]) ?_ hap)) (bC (by kernel_rfl!))
  ·rcases hx with rfl|⟨i,j,rfl⟩<;>kernel_rfl!
  ·rcases hx with rfl|⟨i,j,rfl⟩<;>kernel_rfl!
 | cons i r rc=>
  intro F ns x hx hi ho hl;have Of:=hi i mem_cons_self;have hl2:ns.length+(r.length+1)≤40:=by simpa using hl
  obtain⟨z,hz,h1⟩:∃z,(z=[]∨∃j,z=[(("flag":Str),j)])∧cM (dM F σ.length x) (bR gR) (nat i)=some (dM F σ.length ((("i":Str),nat i)::z)):=by
   rcases hx with rfl|⟨i',j,rfl⟩
   ·exact⟨[],.inl rfl,by kernel_rfl!⟩
   ·exact⟨_,.inr ⟨j,rfl⟩,by kernel_rfl!⟩
  have hfl:aZ (CC (k+1)) 96 (dM F σ.length ((("i":Str),nat i)::z)) (sN (aW gR) 0) (σ++[bE ns])=some (.next,dM F σ.length [(("i":Str),nat i),(("flag":Str),nat (2^i))],σ++[bE ns]):=by
   refine dO (by kernel_rfl!) (fZ (by kernel_rfl!) (a:=nat 1) (b:=nat i) (σ':=σ++[bE ns]) (by kernel_rfl!) ?_ (vP _ i (by lia))) ?_
   ·rcases hz with rfl|⟨j,rfl⟩<;>kernel_rfl!
   ·rcases hz with rfl|⟨j,rfl⟩<;>kernel_rfl!
  have zb:x8 [(("i":Str),nat i),(("flag":Str),nat (2^i))]:=.inr ⟨_,_,rfl⟩;have nA:aX (CC (k+1)) 94 (dM F σ.length [(("i":Str),nat i),(("flag":Str),nat (2^i))]) (bR (sN ((aW gR).drop 1) 0)) (σ++[bE ns])=some (F&&& 2^i != 0,σ++[bE ns]):=by
   exact n8 (by kernel_rfl!) (v:=.int (Builtin.bitAnd (F:Int) ((2^i:Nat):Int))) (by kernel_rfl!) (AJ _ _ _)
  cases hc:(F&&& 2^i != 0) with
  | false=>
   have ho':lZ r F=true:=(if_neg (eq_false_iff.mp hc)).symm.trans ho;refine bK (rc F ns _ zb (fun j hj=>hi j (mem_cons_of_mem _ hj)) ho' (by lia)) ?_;intro F' y hy h2
   refine⟨F',y,hy,?_⟩;have hb:aU (CC (k+1)) 97 (dM F σ.length ((("i":Str),nat i)::z)) (aW gR) (σ++[bE ns])=some (.next,dM F σ.length [(("i":Str),nat i),(("flag":Str),nat (2^i))],σ++[bE ns]):=
    aF (by kernel_rfl!) hfl (aF (by kernel_rfl!) (cL (by kernel_rfl!) (b:=false) (nA.trans (by rw [hc])) (bC (by kernel_rfl!))) (bC (by kernel_rfl!)))
   rw [show dN (i::r) F ns=dN r F ns from if_neg (eq_false_iff.mp hc)];exact aK h1 (aK hb h2)
  | true=>
   have hget:(σ++[bE ns])[σ.length]?=some (.list (ns.map V.str)):=by simp [bE]
   have hap:=xd k (u:=.str (word i)) hget rfl (by rw [length_map];lia)
   have gh:(σ++[bE ns]).set σ.length (.list (ns.map V.str++[.str (word i)]))=σ++[bE (ns++[word i])]:=by simp [bE]
   rw [gh] at hap;have Oe:(CC (k+1)).call (.bi "hex") [nat (2^i)] none (σ++[bE ns])=some (.str (baseText "0x" 16 ((2^i:Nat):Int)),σ++[bE ns]):=by
    show (if (baseText "0x" 16 ((2^i:Nat):Int)).length≤sizeLine then _ else _)=_
    rw [if_pos (le_trans (N5 i Of) (by decide))]
   have DV:aZ (CC (k+1)) 93 (dM F σ.length [(("i":Str),nat i),(("flag":Str),nat (2^i))]) (sN (aW (sN ((aW gR).drop 1) 0)) 0) (σ++[bE ns])=some (.next,dM F σ.length [(("i":Str),nat i),(("flag":Str),nat (2^i))],σ++[bE (ns++[word i])]):=by
    refine n7 (by kernel_rfl!) (jX (by kernel_rfl!) (ov:=.loc σ.length) (σ':=σ++[bE ns]) (by kernel_rfl!) (f:=.bi "list.append") ((Ao k hget).trans (by kernel_rfl!)) (vs:=[.str (word i)]) (bA:=σ++[bE ns]) ?_ hap)
    refine eV (σ':=σ++[bE ns]) (by kernel_rfl!) (jX (by kernel_rfl!) (ov:=.base 133) (σ':=σ++[bE ns]) (by kernel_rfl!) (f:=.bi "dict.get") (by kernel_rfl!) (vs:=[nat (2^i),.str (baseText "0x" 16 ((2^i:Nat):Int))]) (bA:=σ++[bE ns]) ?_ ?_) (i9 (by kernel_rfl!))
    ·exact eV (σ':=σ++[bE ns]) (by kernel_rfl!) (by kernel_rfl!) (eV (σ':=σ++[bE ns]) (by kernel_rfl!) (cN (by kernel_rfl!) (fv:=.bi "hex") (vs:=[nat (2^i)]) (σ':=σ++[bE ns]) (by kernel_rfl!) (by kernel_rfl!) Oe) (i9 (by kernel_rfl!)))
    ·kernel_rfl!
   have DX:aZ (CC (k+1)) 92 (dM F σ.length [(("i":Str),nat i),(("flag":Str),nat (2^i))]) (sN ((aW (sN ((aW gR).drop 1) 0)).drop 1) 0) (σ++[bE (ns++[word i])])=some (.next,dM (F^^^2^i) σ.length [(("i":Str),nat i),(("flag":Str),nat (2^i))],σ++[bE (ns++[word i])]):=by
    refine Ag (by kernel_rfl!) (old:=nat F) (by kernel_rfl!) (v:=nat (2^i)) (by kernel_rfl!) (r:=nat (F^^^2^i)) ?_ (by kernel_rfl!)
    exact AZ [] F (2^i)
   have hnt:aX (CC (k+1)) 90 (dM (F^^^2^i) σ.length [(("i":Str),nat i),(("flag":Str),nat (2^i))]) (bR (sN (((aW (sN ((aW gR).drop 1) 0)).drop 1).drop 1) 0)) (σ++[bE (ns++[word i])])=some (!(F^^^2^i != 0),σ++[bE (ns++[word i])]):=by
    refine Gz (by kernel_rfl!) (n8 (by kernel_rfl!) (v:=nat (F^^^2^i)) (by kernel_rfl!) ?_)
    show some (decide (((F^^^2^i:Nat):Int)≠0))=_;congr 1
    by_cases h:F^^^2^i=0
    ·rw [h];rfl
    ·have:((F^^^2^i:Nat):Int)≠0:=by lia
     rw [decide_eq_true this];simp [h]
   cases hc2:(F^^^2^i != 0) with
   | true=>
    have ho':lZ r (F^^^2^i)=true:=(if_pos hc2).symm.trans ((if_pos hc).symm.trans ho);refine bK (rc (F^^^2^i) (ns++[word i]) _ zb (fun j hj=>hi j (mem_cons_of_mem _ hj)) ho' (by simp;lia)) ?_;intro F' y hy h2
    refine⟨F',y,hy,?_⟩;have hb:aU (CC (k+1)) 97 (dM F σ.length ((("i":Str),nat i)::z)) (aW gR) (σ++[bE ns])=some (.next,dM (F^^^2^i) σ.length [(("i":Str),nat i),(("flag":Str),nat (2^i))],σ++[bE (ns++[word i])]):=
     aF (by kernel_rfl!) hfl (aF (by kernel_rfl!) (cL (by kernel_rfl!) (b:=true) (nA.trans (by rw [hc])) (aF (by kernel_rfl!) DV (aF (by kernel_rfl!) DX (aF (by kernel_rfl!) (cL (by kernel_rfl!) (b:=false) (hnt.trans (by rw [hc2];rfl)) (bC (by kernel_rfl!))) (bC (by kernel_rfl!)))))) (bC (by kernel_rfl!)))
    rw [show dN (i::r) F ns=dN r (F^^^2^i) (ns++[word i]) from (if_pos hc).trans (if_pos hc2)];exact aK h1 (aK hb h2)
   | false=>
    refine⟨F^^^2^i,_,zb,?_⟩;have hb:aU (CC (k+1)) 97 (dM F σ.length ((("i":Str),nat i)::z)) (aW gR) (σ++[bE ns])=some (.brk,dM (F^^^2^i) σ.length [(("i":Str),nat i),(("flag":Str),nat (2^i))],σ++[bE (ns++[word i])]):=
     aF (by kernel_rfl!) hfl (Ak (by kernel_rfl!) rfl (cL (by kernel_rfl!) (b:=true) (nA.trans (by rw [hc])) (aF (by kernel_rfl!) DV (aF (by kernel_rfl!) DX (Ak (by kernel_rfl!) rfl (cL (by kernel_rfl!) (b:=true) (hnt.trans (by rw [hc2];rfl)) (Ak (by kernel_rfl!) rfl (by kernel_rfl!))))))))
    rw [show dN (i::r) F ns=ns++[word i] from (if_pos hc).trans (if_neg (eq_false_iff.mp hc2))];exact aK h1 (aK hb rfl)
section
variable{σ:aa}{base:Nat}
noncomputable def dY:Str:=ofString ", "
noncomputable def AN(F:Nat):Str:=Txt.join dY (dN (List.range 32) F [])
theorem Vq(ns:List Str):strsOf (ns.map V.str)=some ns:=by
 induction ns with
 | nil=>rfl
 | cons a r ih=>show (strsOf (r.map V.str)).map _=_;rw [ih];rfl
theorem MF(h:dU σ)(x:aa)(s:Str):cD σ.length (σ++x) (.str s)=(.str s,σ):=by
 unfold cD;rw [take_left];have e1:j9 σ.length (σ++x) (.str s)=.str s:=rfl;rw [e1,h];rfl
theorem Fb{o:bY}:(σ++[o])[σ.length]?=some o:=by simp
theorem MQ(k F:Nat)(hσ:dU σ)(ho:lZ (List.range 32) F=true)(hj:((dN (List.range 32) F []).map (·.length)).sum+(dN (List.range 32) F []).length*dY.length≤16777216) :
 (CC (k+2)).call (.base 140) [nat F] none σ=some (.str (AN F),σ):=by
 refine bK (MR k σ (List.range 32) F [] [] (.inl rfl) (fun i hi=>mem_range.mp hi) ho (by decide)) ?_;intro F' y hy h
 have hx:aU (CC (k+1)) 100 (aJ ug [(("flags":Str),nat F)]) ug.body σ=some (.ret (.str (AN F)),dM F' σ.length y,σ++[bE (dN (List.range 32) F [])]):=by
  refine aF (by kernel_rfl!) (az:=dM F σ.length []) (σ':=σ++[bE []]) (by kernel_rfl!) ?_
  refine aF (by kernel_rfl!) (Gx (by kernel_rfl!) (by kernel_rfl!) (items:=(List.range 32).map nat) (σ':=σ++[bE []]) (by kernel_rfl!) h) ?_
  refine gD (by kernel_rfl!) (gF (by kernel_rfl!) (jX (by kernel_rfl!) (ov:=.str dY) (σ':=σ++[bE (dN (List.range 32) F [])]) (by kernel_rfl!) (f:=.bi "str.join") (by kernel_rfl!) (vs:=[.loc σ.length]) (bA:=σ++[bE (dN (List.range 32) F [])]) ?_ ?_))
  ·rcases hy with rfl|⟨i,j,rfl⟩<;>kernel_rfl!
  ·show ((listOf (σ++[bE (dN (List.range 32) F [])]) (.loc σ.length)).bind fun l=>(strsOf l).bind fun ys=>if (ys.map (·.length)).sum+ys.length*dY.length≤16777216 then some (V.str (Txt.join dY ys),σ++[bE (dN (List.range 32) F [])]) else none)=_
   have hl:listOf (σ++[bE (dN (List.range 32) F [])]) (.loc σ.length)=some ((dN (List.range 32) F []).map V.str):=kH Fb;rw [hl,bind_some,Vq,bind_some,if_pos hj];rfl
 rw [gC (f:=ug) (bs:=[(("flags":Str),nat F)]) (by kernel_rfl!) (by kernel_rfl!) (by kernel_rfl!) hx,MF hσ]
noncomputable def rm(base:Nat)(high:List Nat):Nat:=(high.map fun h=>2^(base+h)).sum
noncomputable def wordsOf(base:Nat)(high:List Nat):List Str:=if high.isEmpty then [ofString "0x0"] else high.map fun h=>word (base+h)
noncomputable def sC(o:Option Bool)(b:Bool):Bool:=match o with
 | some c=>c==b
 | none=>false
theorem zW{o:Option Bool}{b:Bool}(h:sC o b=true):o=some b:=by
 cases o with
 | none=>cases h
 | some c=>simp [sC] at h;rw [h]
noncomputable def lG(base:Nat)(p:Nat→Bool):Bool:=
 let high:=hs p
 let F:=rm base high
 let ws:=wordsOf base high
 jc (high.map fun h=>((2^(base+h):Nat):Int))&&lZ (List.range 32) F&&decide (dN (List.range 32) F []=ws)&&
 sC (cQ [] .NotEq (.lst (ws.map V.str)) (.lst (ws.map V.str))) false&&(List.range 5).all fun h=>sC (cQ [] .In (.str (word (base+h))) (.lst (ws.map V.str))) (p h)
noncomputable def bb(b0 b1 b2 b3 b4:Bool)(h:Nat):Bool:=match h with
 | 0=>b0|1=>b1|2=>b2|3=>b3|4=>b4|_=>false
noncomputable def allB(P:(Nat→Bool)→Bool):Bool:=[false,true].all fun b0=>[false,true].all fun b1=>[false,true].all fun b2=>[false,true].all fun b3=>[false,true].all fun b4=>P (bb b0 b1 b2 b3 b4)
theorem allB_iff{P:(Nat→Bool)→Bool}(h:allB P=true)(b0 b1 b2 b3 b4:Bool):P (bb b0 b1 b2 b3 b4)=true:=by
 have mem:∀b:Bool,b∈[false,true]:=by intro b;cases b<;>simp
 unfold allB at h;simp only [all_eq_true] at h;exact h b0 (mem _) b1 (mem _) b2 (mem _) b3 (mem _) b4 (mem _)
theorem WA:∀i<32,(word i).length≤20∧44∉(word i).cps.toList:=by decide+kernel
theorem Mt:(range' 0 7).all (fun b=>allB (lG b))=true:=by kernel_rfl
theorem Mu:(range' 7 7).all (fun b=>allB (lG b))=true:=by kernel_rfl
theorem Mv:(range' 14 7).all (fun b=>allB (lG b))=true:=by kernel_rfl
theorem Mw:(range' 21 7).all (fun b=>allB (lG b))=true:=by kernel_rfl
theorem MK(base:Nat)(hb:base<28)(b0 b1 b2 b3 b4:Bool):lG base (bb b0 b1 b2 b3 b4)=true:=by
 have go:∀s,(range' s 7).all (fun b=>allB (lG b))=true→s≤base→base<s+7→lG base (bb b0 b1 b2 b3 b4)=true:=fun s h h1 h2=>by
  rw [all_eq_true] at h;exact allB_iff (h base (List.mem_range'_1.mpr ⟨h1,h2⟩)) b0 b1 b2 b3 b4
 by_cases h1:base<7
 ·exact go 0 Mt (by lia) (by lia)
 by_cases h2:base<14
 ·exact go 7 Mu (by lia) (by lia)
 by_cases h3:base<21
 ·exact go 14 Mv (by lia) (by lia)
 ·exact go 21 Mw (by lia) (by lia)
theorem tL(p:Nat→Bool):∀h<5,p h=bb (p 0) (p 1) (p 2) (p 3) (p 4) h:=by
 refine b8 ?_ ?_ ?_ ?_ ?_<;>rfl
theorem OH{p q:Nat→Bool}(h:∀j<5,p j=q j):hs p=hs q:=by
 unfold hs;apply List.filter_congr;intro j hj;exact h j (mem_range.mp hj)
theorem uM(p:Nat→Bool):hs p=hs (bb (p 0) (p 1) (p 2) (p 3) (p 4)):=OH (tL p)
structure HW(base:Nat)(p:Nat→Bool):Prop where
 sum:jc ((hs p).map fun h=>((2^(base+h):Nat):Int))=true
 ok:lZ (List.range 32) (rm base (hs p))=true
 words:dN (List.range 32) (rm base (hs p)) []=wordsOf base (hs p)
 ne:cQ [] .NotEq (.lst ((wordsOf base (hs p)).map V.str)) (.lst ((wordsOf base (hs p)).map V.str))=some false
 mem:∀h<5,cQ [] .In (.str (word (base+h))) (.lst ((wordsOf base (hs p)).map V.str))=some (p h)
theorem uq(base:Nat)(hb:base<28)(p:Nat→Bool):HW base p:=by
 have h:=MK base hb (p 0) (p 1) (p 2) (p 3) (p 4);unfold lG at h;simp only [and_eq_true,decide_eq_true_eq,all_eq_true] at h;refine au h ?_;clear h;intro hh;refine au hh ?_;clear hh;intro hh;refine au hh ?_;clear hh;intro hh;refine au hh ?_;clear hh;intro h1 h2;intro h3;intro h4;intro h5;rw [←uM] at h1 h2 h3 h4;refine⟨h1,h2,h3,zW h4,fun j hj=>?_⟩;have:=zW (h5 j (mem_range.mpr hj));rw [←uM,←tL p j hj] at this;exact this
theorem AY(hb:base<28)(p:Nat→Bool):(wordsOf base (hs p)).length≤5∧(∀w∈wordsOf base (hs p),w.length≤20∧44∉w.cps.toList)∧wordsOf base (hs p)≠[]:=by
 unfold wordsOf
 split
 ·refine⟨by decide,?_,by simp⟩
  intro w hw;rw [mem_singleton] at hw;subst hw;decide+kernel
 ·rename_i h;refine⟨by rw [length_map];exact jM p,?_,?_⟩
  ·intro w hw;refine aj (mem_map.mp hw) ?_;rintro j hj rfl;have:=jf hj;exact WA (base+j) (by lia)
  ·intro hh;rw [List.map_eq_nil_iff] at hh;rw [hh] at h;exact h rfl
theorem G9:∀ws:List Str,(∀w∈ws,w.length≤20)→(ws.map (·.length)).sum≤20*ws.length:=by
 intro ws
 induction ws with
 | nil=>intro _;simp
 | cons a r rc=>intro h;have:=rc fun w hw=>h w (mem_cons_of_mem _ hw);have:=h a mem_cons_self;simp;lia
theorem V1(hb:base<28)(p:Nat→Bool):(Txt.join dY (wordsOf base (hs p))).length≤200:=by
 refine bO (AY hb p) ?_;intro h1 h2 h3;have h4:=StrLaws.join_length_le dY (wordsOf base (hs p));have h5:=G9 _ fun w hw=>(h2 w hw).1;have e:Txt.join dY (wordsOf base (hs p))=join dY (wordsOf base (hs p)):=StrLaws.glued_eq_join _ _;have h6:dY.length=2:=by decide
 rw [e];rw [h6] at h4;exact le_trans h4 (le_trans (add_le_add (le_trans h5 (Nat.mul_le_mul_left 20 h1)) (Nat.mul_le_mul_right 2 h1)) (by decide))
theorem Wz(k:Nat)(hb:base<28)(p:Nat→Bool)(hσ:dU σ):(CC (k+2)).call (.base 140) [nat (rm base (hs p))] none σ=some (.str (Txt.join dY (wordsOf base (hs p))),σ):=by
 have F:=uq base hb p;refine bO (AY hb p) ?_;intro h1 h2 h3;have h5:=G9 _ fun w hw=>(h2 w hw).1;have h6:dY.length=2:=by decide
 rw [MQ k _ hσ F.ok (by rw [F.words,h6];lia)]
 unfold AN;rw [F.words]
theorem Ve(k:Nat)(hb:base<28)(p:Nat→Bool)(σ:aa):(CC (k+1)).call (.bi "str.split") [.str (Txt.join dY (wordsOf base (hs p))),.str dY] none σ=some (.lst ((wordsOf base (hs p)).map V.str),σ):=by
 refine bO (AY hb p) ?_;intro h1 h2 h3;have h4:=V1 hb p;show (if (dY.length==0)=false∧(Txt.join dY (wordsOf base (hs p))).length+2≤sizeLine then some (V.lst ((Txt.split (Txt.join dY (wordsOf base (hs p))) dY).map V.str),σ) else none)=_
 rw [if_pos ⟨by decide,by rw [show sizeLine=2^24 from rfl];lia⟩,Vf (by decide+kernel) h3 fun w hw=>(h2 w hw).2]
end
section
variable{o:V}{σ₂:aa}{α:Type}{j:Nat}{l:List V}
section
variable{C:Calls}{n:Nat}{me az:ao}{st:Stmt}{e:Expr}{σ σ' bA σ₁:aa}{v w:V}
noncomputable def PS:Stmt→Bool:=qC false fun ts Z Z=>v1 false (jB false fun Z Z Z=>true) ts
theorem Gv{i:V}(h:PS st=true)(he:ak C n me (br st) σ=some (v,σ'))(ho:ak C n me (eN (bh (mS st)) 0) σ'=some (o,bA))(hi:ak C n me (eN (bh (mS st)) 1) bA=some (i,σ₁))(hs:kU σ₁ o i v=some σ₂):aZ C (n+1) me st σ=some (.next,me,σ₂):=by
 refine bG (uO bF h) ?_;rintro _ e q rfl h1;refine aj (i1 bF h1) ?_;rintro t rfl h2;refine bG (nG bF h2) ?_;rintro oe ie p rfl -;show (ak C n me e σ).bind _=_;exact aK he (aK ho (aK hi (cS hs rfl)))
theorem Pj(hj:j<1000)(f:Nat→Option α):(if 0≤(j:Int)∧(j:Int)<2^62 then f (j:Int).toNat else none)=f j:=by
 have c:(0≤(j:Int)∧(j:Int)<2^62):=⟨natCast_nonneg j,uT hj⟩;rw [if_pos c,toNat_natCast]
noncomputable def PW:Stmt→Bool:=oA false fun t Z Z Z=>jB false (fun Z i Z=>eS false (fun Z Z=>true) i) t
noncomputable def I7:Stmt→Str:=oA "" fun t Z Z Z=>jB "" (fun Z i Z=>eS "" (fun x Z=>x) i) t
theorem Uk{old r:V}(h:PW st=true)(ho:ak C n me (eN (bh (mS st)) 0) σ=some (o,σ'))(hi:cy C me (I7 st)=some (nat j))(hl:listOf σ' o=some l)(hj:j<1000)(hold:l[j]?=some old)
 (he:ak C n me (br st) σ'=some (v,bA)) (ha:mU (tK st) old v=some r) (hs:kU bA o (nat j) r=some σ₂):aZ C (n+1) me st σ=some (.next,me,σ₂):=by
 refine fu (Ep bF h) ?_;rintro t op e q rfl h1;refine bG (nG bF h1) ?_;rintro oe ie p rfl h2;refine bK (jh bF h2) ?_;rintro ix ip rfl -;refine aK (x:=ak C n me oe σ) ho (aK hi (aK (x:=listOf σ' o) hl ?_));refine (Pj hj fun i=>(l[i]?).bind fun old=>(ak C n me e σ').bind fun (v,σ)=>(mU op old v).bind fun r=>(kU σ o (nat j) r).map fun σ=>(Fl.next,me,σ)).trans ?_
 exact aK hold (aK he (aK ha (cS hs rfl)))
theorem GV{m:Nat}{u:V}(h:σ[m]?=some (.list l))(hj:j<1000)(hl:j<l.length)(hu:u.plain=true):kU σ (.loc m) (nat j) u=some (σ.set m (.list (l.set j u))):=by
 have c:0≤(j:Int)∧(j:Int)<2^62∧(j:Int).toNat<l.length∧u.plain=true:=⟨natCast_nonneg j,uT hj,by rw [toNat_natCast];exact hl,hu⟩
 exact aK (x:=(V.loc m).loc?) rfl (aK (x:=(nat j).int?) (a:=(j:Int)) rfl (aK (uZ h) (if_pos c)))
end
noncomputable def lv(f:Nat→Nat):List V:=[nat (f 0),nat (f 1),nat (f 2),nat (f 3),nat (f 4)]
theorem Fq(f:Nat→Nat)(x:Nat):∀j<5,(lv f).set j (nat x)=lv (fun h=>if h=j then x else f h):=by
 refine b8 ?_ ?_ ?_ ?_ ?_<;>rfl
theorem Fp(f:Nat→Nat):∀j<5,(lv f)[j]?=some (nat (f j)):=by
 refine b8 ?_ ?_ ?_ ?_ ?_<;>rfl
noncomputable def Ey(p:Nat→Bool):Bool:=(List.range 5).all fun h=>sC (cQ [] .In (nat h) (sub (hs p))) (p h)
theorem Po:allB Ey=true:=by kernel_rfl
theorem EA(p:Nat→Bool)(σ:aa):∀h<5,cQ σ .In (nat h) (sub (hs p))=some (p h):=by
 intro h hh;have:=allB_iff Po (p 0) (p 1) (p 2) (p 3) (p 4);unfold Ey at this;rw [all_eq_true] at this;have:=zW (this h (mem_range.mpr hh));rw [←uM,←tL p h hh] at this;exact this
theorem Sk(p:Nat→Bool)(σ:aa){pv:V}(hp:listOf σ pv=some ((hs p).map nat))(h:Nat)(hh:h<5):cQ σ .NotIn (nat h) pv=some (!p h):=by
 have e1:cQ σ .In (nat h) (sub (hs p))=rO (nat h) (.lst ((hs p).map nat)):=by kernel_rfl!
 have e2:cQ σ .NotIn (nat h) pv=(rO (nat h) (flat σ pv)).map (!·):=by kernel_rfl!
 have e3:flat σ pv=.lst ((hs p).map nat):=by unfold flat;rw [hp]
 rw [e2,e3,←e1,EA p σ h hh];rfl
noncomputable def fS(base:Nat):V:=.lst [.str (word (base+0)),.str (word (base+1)),.str (word (base+2)),.str (word (base+3)),.str (word (base+4))]
noncomputable def aP(S:Nat→Nat)(pk:Nat→Bool)(L h:Nat):Bool:=!pk h&&lvl S L h
noncomputable def mQ:b9:=fnOf "_law_answer" 184 183
noncomputable def IA:List Stmt:=fnBody "_law_answer"
noncomputable def jC:Stmt:=sN ((IA.drop 1).drop 1) 0
noncomputable abbrev wZ:Stmt:=sN (aW jC) 0
noncomputable abbrev Bs:Stmt:=sN ((aW jC).drop 1) 0
noncomputable abbrev Bt:Stmt:=sN (((aW jC).drop 1).drop 1) 0
noncomputable abbrev Bu:Stmt:=sN ((((aW jC).drop 1).drop 1).drop 1) 0
noncomputable abbrev qM:Stmt:=sN (((((aW jC).drop 1).drop 1).drop 1).drop 1) 0
noncomputable abbrev Bv:Stmt:=sN ((((((aW jC).drop 1).drop 1).drop 1).drop 1).drop 1) 0
noncomputable def b6(S W:Nat→Nat)(base m:Nat)(pv:V)(x:List (Str×V)):ao:=aJ mQ ([(("sizes":Str),wv S),(("ways":Str),wv W),(("base":Str),nat base),(("marks":Str),fS base),(("left":Str),.loc m),(("picked":Str),pv)]++x)
noncomputable def kv(x:Str)(v:V):List (Str×V):=[(x,v)]
section
variable(k:Nat){S W:Nat→Nat}{base m:Nat}{pv:V}{pk:Nat→Bool}{L:Nat}{σ:aa}{x:List (Str×V)}
theorem Bw(hL:L=4∨L=2∨L=1)(hp:listOf σ pv=some ((hs pk).map nat))(hpl:pv.plain=true):ak (CC (k+4)) 94 (b6 S W base m pv (kv "level" (nat L)++x)) (br wZ) σ=some (sub (hs (aP S pk L)),σ):=by
 refine n6 (l:=List.range 5) (g:=nat) (σ':=σ) (aP S pk L) nat ?_ ?_ (fun Z Z=>rfl) ?_ ?_ (fun Z Z Z=>rfl) (by decide)
 ·have:i7 (b6 S W base m pv (kv "level" (nat L)++x)) (dJ (br wZ))=true:=by kernel_rfl!
  rw [this];kernel_rfl!
 ·kernel_rfl!
 ·intro h hh;replace hh:=mem_range.mp hh;refine qt (by kernel_rfl!) (g6 (by kernel_rfl!) (Ui (a:=!pk h) (by kernel_rfl!) (fF (by kernel_rfl!) (a:=nat h) (b:=pv) (σ':=σ) (by kernel_rfl!) (by kernel_rfl!) (Sk pk σ hp h hh)) (fun e=>?_) (fun e=>?_)))
  ·unfold aP;rw [e,Bool.true_and];refine n8 (by kernel_rfl!) (v:=.int (Builtin.bitAnd (S h:Int) (L:Int))) ?_ (AJ _ _ _)
   clear e;revert h;rcases hL with rfl|rfl|rfl<;>refine b8 ?_ ?_ ?_ ?_ ?_<;>kernel_rfl!
  ·unfold aP;rw [e];rfl
 ·intro h hh _;kernel_rfl!
theorem sum_nat(f:α→Nat):∀l:List α,(l.map fun h=>((f h:Nat):Int)).sum=(((l.map f).sum:Nat):Int):=by
 intro l
 induction l with
 | nil=>exact rfl
 | cons a r rc=>rw [map_cons,map_cons,sum_cons,sum_cons,rc];lia
theorem ints_map(f:α→Nat):∀l:List α,intsOf (l.map fun h=>nat (f h))=some (l.map fun h=>((f h:Nat):Int)):=by
 intro l
 induction l with
 | nil=>exact rfl
 | cons a r rc=>show (intsOf (r.map fun h=>nat (f h))).map _=_;rw [rc];rfl
theorem G8(k:Nat)(f:α→Nat)(l:List α)(hf:jc (l.map fun h=>((f h:Nat):Int))=true)(σ:aa):(CC (k+1)).call (.bi "sum") [.lst (l.map fun h=>nat (f h))] none σ=some (nat (l.map f).sum,σ):=by
 show ((intsOf (l.map fun h=>nat (f h))).bind fun ns=>if jc ns then some (V.int ns.sum,σ) else none)=_
 rw [ints_map,bind_some,if_pos hf,sum_nat]
theorem Bx(hb:base<28)(p:Nat→Bool)(hσ:dU σ):ak (CC (k+4)) 93 (b6 S W base m pv (kv "level" (nat L)++(kv "high" (sub (hs p))++x))) (br Bs) σ=some (.lst ((wordsOf base (hs p)).map V.str),σ):=by
 refine jX (by kernel_rfl!) (ov:=.str (Txt.join dY (wordsOf base (hs p)))) (σ':=σ) ?_ (f:=.bi "str.split") (by kernel_rfl!) (vs:=[.str dY]) (bA:=σ) (by kernel_rfl!) (Ve (k+3) hb p σ)
 refine cN (by kernel_rfl!) (fv:=.base 140) (vs:=[nat (rm base (hs p))]) (σ':=σ) (by kernel_rfl!) (eV (σ':=σ) (by kernel_rfl!) ?_ (i9 (by kernel_rfl!))) (Wz (k+2) hb p hσ)
 refine cN (by kernel_rfl!) (fv:=.bi "sum") (vs:=[.lst ((hs p).map fun h=>nat (2^(base+h)))]) (σ':=σ) (by kernel_rfl!) (eV (σ':=σ) (by kernel_rfl!) ?_ (i9 (by kernel_rfl!))) (G8 (k+3) _ _ (uq base hb p).sum σ)
 refine kR (l:=hs p) (g:=nat) (σ':=σ) _ ?_ (g8 (by kernel_rfl!) (by kernel_rfl!) (by have:=jM p;rw [length_map];lia) (cW (hs p))) (fun Z Z=>rfl) ?_ (fun Z Z=>rfl) (by have:=jM p;rw [show sizeLine=2^24 from rfl];lia)
 ·kernel_rfl!
 ·intro h hh;have:=jf hh;exact fZ (by kernel_rfl!) (a:=nat 1) (b:=nat (base+h)) (σ':=σ) (by kernel_rfl!) (by kernel_rfl!) (vP σ _ (by lia))
theorem Uo{C:Calls}{n:Nat}{me:ao}{e:Expr}{σ:aa}{a b:V}{t:Bool}(h:isBool e=true)(ho:boolOf e=.Or)(hl:(bh e).length=2)(h1:ak C n me (eN (bh e) 0) σ=some (a,σ))(ht:gr σ a=some t)(h2:t=false→ak C n me (eN (bh e) 1) σ=some (b,σ))(h3:t=true→a=b):ak C (n+1) me e σ=some (b,σ):=by
 refine bG (zf bF h) ?_;rintro op es p rfl -;obtain rfl:op=.Or:=ho;refine fq (uW hl) ?_;rintro x y rfl;refine aK (x:=ak C n me x σ) h1 (aK (x:=gr σ a) ht ?_);cases t with
 | true=>rw [←h3 rfl]
 | false=>exact h2 rfl
theorem IE(hb:base<28)(p:Nat→Bool):aX (CC (k+4)) 92 (b6 S W base m pv (kv "level" (nat L)++(kv "high" (sub (hs p))++(kv "words" (.lst ((wordsOf base (hs p)).map V.str))++x)))) (bR Bt) σ=some (false,σ):=by
 refine fF (by kernel_rfl!) (a:=.lst ((wordsOf base (hs p)).map V.str)) (b:=.lst ((wordsOf base (hs p)).map V.str)) (σ':=σ) (by kernel_rfl!) ?_ ?_
 ·refine Uo (by kernel_rfl!) (by kernel_rfl!) (by kernel_rfl!) (a:=.lst ((hs p).map fun h=>.str (word (base+h)))) (t:=!(hs p).isEmpty) ?_ ?_ ?_ ?_
  ·refine kR (l:=hs p) (g:=nat) (σ':=σ) _ ?_ (g8 (by kernel_rfl!) (by kernel_rfl!) (by have:=jM p;rw [length_map];lia) (cW (hs p))) (fun Z Z=>rfl) ?_ (fun Z Z=>rfl) (by have:=jM p;rw [show sizeLine=2^24 from rfl];lia)
   ·kernel_rfl!
   ·intro h hh;have WY:=jf hh;clear hh;revert h;refine b8 ?_ ?_ ?_ ?_ ?_<;>kernel_rfl!
  ·show (if ((hs p).map fun h=>V.str (word (base+h))).length<2^20 then some (!((hs p).map fun h=>V.str (word (base+h))).isEmpty) else none)=_
   rw [if_pos (by have:=jM p;rw [length_map];lia),List.isEmpty_map]
  ·intro h;have h0:(hs p).isEmpty=true:=by simpa using h
   have:wordsOf base (hs p)=[ofString "0x0"]:=by unfold wordsOf;rw [if_pos h0]
   rw [this];kernel_rfl!
  ·intro h;have h0:(hs p).isEmpty=false:=by simpa using h
   have:wordsOf base (hs p)=(hs p).map fun h=>word (base+h):=by unfold wordsOf;rw [if_neg (by rw [h0];decide)]
   rw [this,map_map];rfl
 ·have e1:cQ σ .NotEq (.lst ((wordsOf base (hs p)).map V.str)) (.lst ((wordsOf base (hs p)).map V.str))=cQ [] .NotEq (.lst ((wordsOf base (hs p)).map V.str)) (.lst ((wordsOf base (hs p)).map V.str)):=by
   generalize (wordsOf base (hs p)).map V.str=l;kernel_rfl!
  exact e1.trans (uq base hb p).ne
theorem By(hb:base<28)(p:Nat→Bool):ak (CC (k+4)) 91 (b6 S W base m pv (kv "level" (nat L)++(kv "high" (sub (hs p))++(kv "words" (.lst ((wordsOf base (hs p)).map V.str))++x)))) (br Bu) σ=some (sub (hs p),σ):=by
 refine n6 (l:=List.range 5) (g:=nat) (σ':=σ) p nat ?_ (by kernel_rfl!) (fun Z Z=>rfl) ?_ ?_ (fun Z Z Z=>rfl) (by decide)
 ·kernel_rfl!
 ·intro h hh;replace hh:=mem_range.mp hh;refine qt (by kernel_rfl!) (fF (by kernel_rfl!) (a:=.str (word (base+h))) (b:=.lst ((wordsOf base (hs p)).map V.str)) (σ':=σ) ?_ (by kernel_rfl!) ?_)
  ·revert h;refine b8 ?_ ?_ ?_ ?_ ?_<;>kernel_rfl!
  ·have e1:∀y,cQ σ .In (.str y) (.lst ((wordsOf base (hs p)).map V.str))=cQ [] .In (.str y) (.lst ((wordsOf base (hs p)).map V.str)):=by
    intro y;generalize (wordsOf base (hs p)).map V.str=l;kernel_rfl!
   exact (e1 _).trans ((uq base hb p).mem h hh)
 ·intro h hh _;kernel_rfl!
end
end
noncomputable def Mn(W:Nat→Nat)(pk hi:Nat→Bool):List Nat:=(hs pk++hs hi).filter fun h=>(gk W (hs pk++hs hi) (hs hi)).2.2.testBit h
noncomputable def kJ(S left:Nat→Nat)(L:Nat)(hi:Nat→Bool)(h:Nat):Nat:=if hi h then S h/L/2*2*L else left h+L
noncomputable def gi(S left:Nat→Nat)(L:Nat)(M:List Nat)(hi:Nat→Bool)(h:Nat):Nat:=if h∈M then kJ S left L hi h else left h
noncomputable def c8(S left:Nat→Nat)(h:Nat):Bool:=decide (left h<S h)
noncomputable def fh(S W:Nat→Nat)(s:(Nat→Nat)×(Nat→Bool))(L:Nat):(Nat→Nat)×(Nat→Bool):=(gi S s.1 L (Mn W s.2 (aP S s.2 L)) (aP S s.2 L),c8 S (gi S s.1 L (Mn W s.2 (aP S s.2 L)) (aP S s.2 L)))
noncomputable def iY(S W:Nat→Nat):Nat→Nat:=([4,2,1].foldl (fh S W) (S,fun Z=>false)).1
theorem uN(p:Nat→Bool):(hs p).Nodup:=Nodup.sublist List.filter_sublist List.nodup_range
theorem RW(W:Nat→Nat)(S:Nat→Nat)(pk:Nat→Bool)(L:Nat):(Mn W pk (aP S pk L)).Nodup:=by
 refine Nodup.sublist List.filter_sublist ?_;rw [List.nodup_append];refine⟨uN _,uN _,?_⟩;intro a ha b hb hab;subst hab;have h1:=(jN.mp ha).2;have h2:=(jN.mp hb).2;simp [aP,h1] at h2
theorem FJ{W:Nat→Nat}{pk hi:Nat→Bool}{j:Nat}(h:j∈Mn W pk hi):j<5:=by
 have:=(mem_filter.mp h).1;rcases mem_append.mp this with h|h<;>exact jf h
noncomputable def eE(f:Nat→Nat):bY:=.list (lv f)
noncomputable def rR(y:List (Str×V)):Prop:=y=[]∨∃u,y=kv "h" u
theorem pB(a b:Nat):fdiv (a:Int) (b:Int)=((a/b:Nat):Int):=by
 rw [Int.fdiv_eq_ediv_of_nonneg _ (natCast_nonneg b),Int.natCast_ediv]
theorem Wh(s L:Nat):fdiv (fdiv (s:Int) (L:Int)) 2*2*(L:Int)=((s/L/2*2*L:Nat):Int):=by
 have h2:(2:Int)=((2:Nat):Int):=rfl;rw [pB,h2,pB,Int.natCast_mul,Int.natCast_mul]
mutual
theorem V5{n m:Nat}(h:n≤m):∀v:V,v.under n=true→v.under m=true
 | .loc i,hv=>decide_eq_true (lt_of_lt_of_le (of_decide_eq_true hv) h)
 | .tup l,hv=>oz h l hv
 | .lst l,hv=>oz h l hv
 | .aE _ l,hv=>oz h l hv
 | .none,_=>rfl
 | .bool _,_=>rfl
 | .int _,_=>rfl
 | .str _,_=>rfl
 | .base _,_=>rfl
 | .bi _,_=>rfl
 | .ty _,_=>rfl
theorem oz{n m:Nat}(h:n≤m):∀l:List V,V.fG n l=true→V.fG m l=true
 | [],_=>rfl
 | v::r,hv=>by
  have hv:=and_eq_true_iff.mp hv;exact and_eq_true_iff.mpr ⟨V5 h v hv.1,oz h r hv.2⟩
end
theorem F6{n m:Nat}(h:n≤m)(o:bY)(ho:o.under n=true):o.under m=true:=by
 cases o with
 | list l=>exact oz h l ho
 | iter l=>exact oz h l ho
 | acc i l=>exact oz h l ho
theorem U5{σ x:aa}(h:dU σ)(hx:∀o∈x,o.under 0=true):dU (σ++x):=by
 unfold dU at h ⊢;rw [List.all_append,and_eq_true,all_eq_true,all_eq_true];rw [all_eq_true] at h;exact⟨fun o ho=>F6 (by simp) o (h o ho),fun o ho=>F6 (zero_le _) o (hx o ho)⟩
noncomputable def bq(σ:aa)(f:Nat→Nat):aa:=σ++[eE f,.list []]
theorem w6{σ:aa}(h:dU σ)(f:Nat→Nat):dU (bq σ f):=U5 h (by
 intro o ho;simp only [mem_cons,not_mem_nil,or_false] at ho;rcases ho with rfl|rfl<;>rfl)
theorem tE(σ:aa)(f:Nat→Nat):(bq σ f)[σ.length]?=some (.list (lv f)):=by simp [bq,eE]
theorem IC(σ:aa)(f g:Nat→Nat):(bq σ f).set σ.length (.list (lv g))=bq σ g:=by simp [bq,eE,List.set_append]
theorem IB(σ:aa)(f:Nat→Nat):(bq σ f)[σ.length+1]?=some (.list []):=by
 unfold bq;rw [getElem?_append_right (by lia)]
 simp
noncomputable def iz(L:Nat)(hi:Nat→Bool)(ws:V)(y:List (Str×V)):List (Str×V):=kv "level" (nat L)++(kv "high" (sub (hs hi))++(kv "words" ws++(kv "here" (sub (hs hi))++y)))
section
variable(k:Nat){S W:Nat→Nat}{base:Nat}{pv ws:V}{hi:Nat→Bool}{L:Nat}{σ:aa}
theorem II(hL:L=4∨L=2∨L=1)(f:Nat→Nat)(j:Nat)(hj:j<5):aU (CC (k+4)) 90 (b6 S W base σ.length pv (iz L hi ws (kv "h" (nat j)))) (aW qM) (bq σ f) =
 some (.next,b6 S W base σ.length pv (iz L hi ws (kv "h" (nat j))),bq σ (fun h=>if h=j then kJ S f L hi j else f h)):=by
 have nA:aX (CC (k+4)) 88 (b6 S W base σ.length pv (iz L hi ws (kv "h" (nat j)))) (bR (sN (aW qM) 0)) (bq σ f)=some (hi j,bq σ f):=
  fF (by kernel_rfl!) (a:=nat j) (b:=sub (hs hi)) (σ':=bq σ f) (by kernel_rfl!) (by kernel_rfl!) (EA hi _ j hj)
 have gh:∀x,kU (bq σ f) (.loc σ.length) (nat j) (nat x)=some (bq σ (fun h=>if h=j then x else f h)):=fun x=>by
  rw [GV (tE σ f) (by lia) hj rfl,Fq f x j hj,IC]
 cases hc:hi j with
 | true=>
  have:kJ S f L hi j=S j/L/2*2*L:=by unfold kJ;rw [if_pos hc]
  rw [this];refine aF (by kernel_rfl!) (cL (by kernel_rfl!) (b:=true) (nA.trans (by rw [hc])) (aF (by kernel_rfl!) (Gv (by kernel_rfl!) (v:=nat (S j/L/2*2*L)) (σ':=bq σ f) ?_ (o:=.loc σ.length) (bA:=bq σ f) (by kernel_rfl!) (i:=nat j) (σ₁:=bq σ f) (by kernel_rfl!) (gh _)) (bC (by kernel_rfl!)))) (bC (by kernel_rfl!))
  show _=some (V.int ((S j/L/2*2*L:Nat):Int),bq σ f);rw [←Wh];clear hc this gh nA;revert j;rcases hL with rfl|rfl|rfl<;>refine b8 ?_ ?_ ?_ ?_ ?_<;>kernel_rfl!
 | false=>
  have:kJ S f L hi j=f j+L:=by unfold kJ;rw [if_neg (by rw [hc];decide)]
  rw [this];refine aF (by kernel_rfl!) (cL (by kernel_rfl!) (b:=false) (nA.trans (by rw [hc])) (aF (by kernel_rfl!) (Uk (by kernel_rfl!) (o:=.loc σ.length) (σ':=bq σ f) (by kernel_rfl!) (j:=j) (by kernel_rfl!) (kH (tE σ f)) (by lia) (Fp f j hj) (v:=nat L) (bA:=bq σ f) (by kernel_rfl!) (r:=nat (f j+L)) (by kernel_rfl!) (gh _)) (bC (by kernel_rfl!)))) (bC (by kernel_rfl!))
end
section
variable(k:Nat){S W:Nat→Nat}{base:Nat}{pv ws:V}{pk:Nat→Bool}{L:Nat}{σ:aa}
noncomputable def xS(S left:Nat→Nat)(L:Nat)(hi:Nat→Bool)(done:List Nat)(h:Nat):Nat:=if h∈done then kJ S left L hi h else left h
theorem IF(hL:L=4∨L=2∨L=1)(hσ:dU σ)(left:Nat→Nat)(hp:listOf (bq σ left) pv=some ((hs pk).map nat))(y:List (Str×V))(hy:rR y) :
 ∃y',rR y'∧aZ (CC (k+4)) 91 (b6 S W base σ.length pv (iz L (aP S pk L) ws y)) qM (bq σ left) =
  some (.next,b6 S W base σ.length pv (iz L (aP S pk L) ws y'),bq σ (gi S left L (Mn W pk (aP S pk L)) (aP S pk L))):=by
 have hlen:=jM pk;have hlen2:=jM (aP S pk L);have hi:dD (ak (CC (k+4)) 90) (CC (k+4)) (b6 S W base σ.length pv (iz L (aP S pk L) ws y)) (br qM) (bq σ left)=some ((Mn W pk (aP S pk L)).map nat,bq σ left):=by
  refine g8 (by kernel_rfl!) (cN (by kernel_rfl!) (fv:=.base 179) (vs:=[sub (hs pk++hs (aP S pk L)),sub (hs (aP S pk L)),wv W]) (σ':=bq σ left) (by kernel_rfl!) (eV (σ':=bq σ left) (by kernel_rfl!) ?_ (by kernel_rfl!)) (Rr k _ _ W (w6 hσ left) ?_ (fun j h=>jf h) ?_ (by lia))) ?_ (cW _)
  ·refine fZ (by kernel_rfl!) (a:=pv) (b:=sub (hs (aP S pk L))) (σ':=bq σ left) (by kernel_rfl!) (by kernel_rfl!) ?_
   show iC (bq σ left) .Add pv (.lst ((hs (aP S pk L)).map nat))=_;rw [add_lists hp (by rw [show sizeLine=2^24 from rfl];simp;lia),←map_append];rfl
  ·intro j h;rcases mem_append.mp h with h|h<;>exact jf h
  ·simp;lia
  ·rw [length_map];have:(Mn W pk (aP S pk L)).length≤(hs pk++hs (aP S pk L)).length:=List.length_filter_le _ _;rw [List.length_append] at this;lia
 obtain⟨cG,σ2,⟨rfl,y',hy',rfl⟩,h⟩:=iP (C:=CC (k+4)) (n:=89) (st:=qM) (me:=b6 S W base σ.length pv (iz L (aP S pk L) ws y)) (σ:=bq σ left) (σ':=bq σ left) (g:=nat) (L:=Mn W pk (aP S pk L))
  (fun done me s=>s=bq σ (xS S left L (aP S pk L) done)∧∃y,rR y∧me=b6 S W base σ.length pv (iz L (aP S pk L) ws y))
  (by kernel_rfl!) (by kernel_rfl!) hi (by kernel_rfl!) ⟨by
   congr 1,y,hy,rfl⟩
  (fun done j rest me s hM hI=>by
   obtain⟨rfl,y,hy,rfl⟩:=hI;have hnd:=RW W S pk L;have hj:j<5:=FJ (W:=W) (pk:=pk) (hi:=aP S pk L) (by rw [hM];simp)
   have Oj:j∉done:=by
    rw [hM,List.nodup_append] at hnd;intro hd;exact hnd.2.2 j hd j mem_cons_self rfl
   refine⟨b6 S W base σ.length pv (iz L (aP S pk L) ws (kv "h" (nat j))),_,_,?_,II k hL _ j hj,?_,_,.inr ⟨_,rfl⟩,rfl⟩
   ·rcases hy with rfl|⟨u,rfl⟩<;>kernel_rfl!
   ·congr 1
    funext h
    by_cases e:h=j
    ·subst e;simp [xS,kJ,Oj]
    ·simp [xS,e])
 exact⟨y',hy',h⟩
theorem IG(left:Nat→Nat)(y:List (Str×V)):ak (CC (k+4)) 89 (b6 S W base σ.length pv (kv "level" (nat L)++y)) (br Bv) (bq σ left)=some (sub (hs (c8 S left)),bq σ left):=by
 refine n6 (l:=List.range 5) (g:=nat) (σ':=bq σ left) (c8 S left) nat ?_ (by kernel_rfl!) (fun Z Z=>rfl) ?_ ?_ (fun Z Z Z=>rfl) (by decide)
 ·kernel_rfl!
 ·intro h hh;replace hh:=mem_range.mp hh;refine qt (by kernel_rfl!) (fF (by kernel_rfl!) (a:=nat (left h)) (b:=nat (S h)) (σ':=bq σ left) (jW (by kernel_rfl!) (o:=.loc σ.length) (j:=(h:Int)) (σ':=bq σ left) (by kernel_rfl!) (by kernel_rfl!) ?_) ?_ ?_)
  ·rw [nH (tE σ left) (by lia)]
   exact Fp left h hh
  ·revert h;refine b8 ?_ ?_ ?_ ?_ ?_<;>kernel_rfl!
  ·show some (decide _)=some (decide _);congr 2;exact propext ofNat_lt
 ·intro h hh _;kernel_rfl!
noncomputable def zl(x:List (Str×V)):Prop:=x=[]∨∃a b c d y,rR y∧x=kv "level" a++(kv "high" b++(kv "words" c++(kv "here" d++y)))
theorem ID(hb:base<28)(hL:L=4∨L=2∨L=1)(hσ:dU σ)(left:Nat→Nat)(hp:listOf (bq σ left) pv=some ((hs pk).map nat))(hpl:pv.plain=true)(x:List (Str×V))(hx:zl x) :
 ∃gm x',zl x'∧cM (b6 S W base σ.length pv x) (bR jC) (nat L)=some gm∧aU (CC (k+4)) 96 gm (aW jC) (bq σ left) =
  some (.next,b6 S W base σ.length (sub (hs (fh S W (left,pk) L).2)) x',bq σ (fh S W (left,pk) L).1):=by
 obtain⟨y,z,hy,hz,h1⟩:∃y z,rR y∧(z=[]∧y=[]∨∃b c d,z=kv "high" b++(kv "words" c++(kv "here" d++y)))∧cM (b6 S W base σ.length pv x) (bR jC) (nat L)=some (b6 S W base σ.length pv (kv "level" (nat L)++z)):=by
  rcases hx with rfl|⟨a,b,c,d,y,hy,rfl⟩
  ·exact⟨[],[],.inl rfl,.inl ⟨rfl,rfl⟩,by kernel_rfl!⟩
  ·exact⟨y,_,hy,.inr ⟨b,c,d,rfl⟩,by kernel_rfl!⟩
 have s0:∃z',(z'=[]∧y=[]∨∃c d,z'=kv "words" c++(kv "here" d++y))∧aZ (CC (k+4)) 95 (b6 S W base σ.length pv (kv "level" (nat L)++z)) wZ (bq σ left)=some (.next,b6 S W base σ.length pv (kv "level" (nat L)++(kv "high" (sub (hs (aP S pk L)))++z')),bq σ left):=by
  rcases hz with⟨rfl,rfl⟩|⟨b,c,d,rfl⟩
  ·exact⟨[],.inl ⟨rfl,rfl⟩,dP (by kernel_rfl!) (cW _) (Bw k hL hp hpl) (by kernel_rfl!)⟩
  ·exact⟨_,.inr ⟨c,d,rfl⟩,dP (by kernel_rfl!) (cW _) (Bw k hL hp hpl) (by kernel_rfl!)⟩
 refine aj s0 ?_;clear s0;intro z1 hz1 h2;have rI:(V.lst ((wordsOf base (hs (aP S pk L))).map V.str)).plain=true:=by
  show V.bD _=true;rw [eX];intro v hv;refine aj (mem_map.mp hv) ?_;rintro i _ rfl;rfl
 have s1:∃z',(z'=[]∧y=[]∨∃d,z'=kv "here" d++y)∧aZ (CC (k+4)) 94 (b6 S W base σ.length pv (kv "level" (nat L)++(kv "high" (sub (hs (aP S pk L)))++z1))) Bs (bq σ left)=some (.next,b6 S W base σ.length pv (kv "level" (nat L)++(kv "high" (sub (hs (aP S pk L)))++(kv "words" (.lst ((wordsOf base (hs (aP S pk L))).map V.str))++z'))),bq σ left):=by
  rcases hz1 with⟨rfl,rfl⟩|⟨c,d,rfl⟩
  ·exact⟨[],.inl ⟨rfl,rfl⟩,dP (by kernel_rfl!) rI (Bx k hb _ (w6 hσ left)) (by kernel_rfl!)⟩
  ·exact⟨_,.inr ⟨d,rfl⟩,dP (by kernel_rfl!) rI (Bx k hb _ (w6 hσ left)) (by kernel_rfl!)⟩
 refine aj s1 ?_;clear s1;intro z2 hz2 h3;have h4:aZ (CC (k+4)) 93 (b6 S W base σ.length pv (kv "level" (nat L)++(kv "high" (sub (hs (aP S pk L)))++(kv "words" (.lst ((wordsOf base (hs (aP S pk L))).map V.str))++z2)))) Bt (bq σ left)=some (.next,b6 S W base σ.length pv (kv "level" (nat L)++(kv "high" (sub (hs (aP S pk L)))++(kv "words" (.lst ((wordsOf base (hs (aP S pk L))).map V.str))++z2))),bq σ left):=
  cL (by kernel_rfl!) (b:=false) (IE k hb _) (bC (by kernel_rfl!))
 have h5:aZ (CC (k+4)) 92 (b6 S W base σ.length pv (kv "level" (nat L)++(kv "high" (sub (hs (aP S pk L)))++(kv "words" (.lst ((wordsOf base (hs (aP S pk L))).map V.str))++z2)))) Bu (bq σ left)=some (.next,b6 S W base σ.length pv (iz L (aP S pk L) (.lst ((wordsOf base (hs (aP S pk L))).map V.str)) y),bq σ left):=by
  rcases hz2 with⟨rfl,rfl⟩|⟨d,rfl⟩
  ·exact dP (by kernel_rfl!) (cW _) (By k hb _) (by kernel_rfl!)
  ·exact dP (by kernel_rfl!) (cW _) (By k hb _) (by kernel_rfl!)
 obtain⟨y',hy',h6⟩:=IF k (W:=W) (base:=base) (ws:=.lst ((wordsOf base (hs (aP S pk L))).map V.str)) hL hσ left hp y hy;have h7:aZ (CC (k+4)) 90 (b6 S W base σ.length pv (iz L (aP S pk L) (.lst ((wordsOf base (hs (aP S pk L))).map V.str)) y')) Bv (bq σ (fh S W (left,pk) L).1)=some (.next,b6 S W base σ.length (sub (hs (fh S W (left,pk) L).2)) (iz L (aP S pk L) (.lst ((wordsOf base (hs (aP S pk L))).map V.str)) y'),bq σ (fh S W (left,pk) L).1):=
  dP (by kernel_rfl!) (cW _) (IG k _ _) (by kernel_rfl!)
 exact⟨_,_,.inr ⟨_,_,_,_,y',hy',rfl⟩,h1,aF (by kernel_rfl!) h2 (aF (by kernel_rfl!) h3 (aF (by kernel_rfl!) h4 (aF (by kernel_rfl!) h5 (aF (by kernel_rfl!) h6 (aF (by kernel_rfl!) h7 (bC (by kernel_rfl!)))))))⟩
end
theorem MC{σ:aa}(h:dU σ)(f:Nat→Nat):cD σ.length (bq σ f) (.loc σ.length)=(wv f,σ):=by
 unfold cD;have e0:j9 σ.length (bq σ f) (.loc σ.length)=.lst (lv f):=by
  exact DC (tE _ _)
 have e1:(bq σ f).take σ.length=σ:=by unfold bq;rw [take_left]
 rw [e0,e1,h];rfl
theorem IJ(k:Nat)(S W:Nat→Nat){base:Nat}(hb:base<28){σ:aa}(hσ:dU σ):(CC (k+5)).call (.base 184) [wv S,wv W,nat base,fS base] none σ=some (wv (iY S W),σ):=by
 obtain⟨cG,σ2,⟨pv,x,hx,rfl,rfl,_⟩,h⟩:=iP (C:=CC (k+4)) (n:=95) (st:=jC) (me:=b6 S W base σ.length (.loc (σ.length+1)) []) (σ:=bq σ S) (σ':=bq σ S) (g:=nat) (L:=[4,2,1])
  (fun done me s=>∃pv x,zl x∧me=b6 S W base σ.length pv x∧s=bq σ (done.foldl (fh S W) (S,fun Z=>false)).1∧(listOf s pv=some ((hs (done.foldl (fh S W) (S,fun Z=>false)).2).map nat)∧pv.plain=true))
  (by kernel_rfl!) (by kernel_rfl!) (by kernel_rfl!) (by kernel_rfl!) ⟨_,[],.inl rfl,rfl,rfl,kH (IB σ S),rfl⟩
  (fun done L rest me s hM hI=>by
   refine lC hI ?_;clear hI;rintro pv x hx rfl rfl hp hpl;have hL:L=4∨L=2∨L=1:=by
    have:L∈[4,2,1]:=by rw [hM];simp
    simpa using this
   obtain⟨gm,x',hx',h1,h2⟩:=ID (W:=W) k hb hL hσ _ hp hpl x hx;refine⟨gm,_,_,h1,h2,_,x',hx',rfl,?_,?_,cW _⟩
   ·rw [pC]
   ·rw [pC];rfl)
 have hrun:aU (CC (k+4)) 100 (aJ mQ [(("sizes":Str),wv S),(("ways":Str),wv W),(("base":Str),nat base),(("marks":Str),fS base)]) mQ.body σ=some (.ret (.loc σ.length),b6 S W base σ.length pv x,bq σ (iY S W)):=by
  refine aF (by kernel_rfl!) (az:=aJ mQ [(("sizes":Str),wv S),(("ways":Str),wv W),(("base":Str),nat base),(("marks":Str),fS base),(("left":Str),.loc σ.length)]) (σ':=σ++[eE S]) (by kernel_rfl!) ?_
  refine aF (by kernel_rfl!) (az:=b6 S W base σ.length (.loc (σ.length+1)) []) (σ':=bq σ S) ?_ ?_
  ·have h0:aZ (CC (k+4)) 98 (aJ mQ [(("sizes":Str),wv S),(("ways":Str),wv W),(("base":Str),nat base),(("marks":Str),fS base),(("left":Str),.loc σ.length)]) (sN (mQ.body.drop 1) 0) (σ++[eE S])=some (.next,b6 S W base σ.length (.loc (σ++[eE S]).length) [],(σ++[eE S])++[.list []]):=
    dO (by kernel_rfl!) (v:=.loc (σ++[eE S]).length) (σ':=(σ++[eE S])++[.list []]) (by kernel_rfl!) (by kernel_rfl!)
   have e1:(σ++[eE S]).length=σ.length+1:=by simp
   have e2:(σ++[eE S])++[.list []]=bq σ S:=by simp [bq]
   rw [e1,e2] at h0;exact h0
  refine aF (by kernel_rfl!) h ?_
  exact gD (by kernel_rfl!) (gF (by kernel_rfl!) (by kernel_rfl!))
 rw [gC (f:=mQ) (bs:=[(("sizes":Str),wv S),(("ways":Str),wv W),(("base":Str),nat base),(("marks":Str),fS base)]) (by kernel_rfl!) (by kernel_rfl!) (by kernel_rfl!) hrun,MC hσ]
section
variable{b:List Nat}{S T:Nat→Nat}{e x:Nat}
noncomputable def cntK(key:Nat→Nat)(b:List Nat)(e:Nat):Nat:=b.countP fun a=>decide (key a≤key e)
noncomputable def dB(key:Nat→Nat)(b:List Nat)(e:Nat):List Nat:=b.take (cntK key b e)++e::b.drop (cntK key b e)
noncomputable def bz(S:Nat→Nat):List Nat:=(List.range 5).foldl (dB S) []
noncomputable def j8(a b c d e:Nat)(h:Nat):Nat:=match h with|0=>a|1=>b|2=>c|3=>d|4=>e|_=>0
noncomputable def nK(S:Nat→Nat):List Int:=[((S 0:Nat):Int),((S 1:Nat):Int),((S 2:Nat):Int),((S 3:Nat):Int),((S 4:Nat):Int)]
noncomputable def rank(S:Nat→Nat)(h:Nat):Nat:=(List.range 5).countP fun a=>decide (S a<S h)
noncomputable def canon(S:Nat→Nat):Bool:=(List.range 5).all fun h=>rank S h==S h
noncomputable def kM(S:Nat→Nat):Bool:=(eH (nK S)).toList==bz S&&decide ((bz S).length=5)&&(List.range 5).all fun h=>(bz S).contains h
noncomputable def mO(n:Nat)(P:(Nat→Nat)→Bool):Bool:=(List.range 5).all fun b=>(List.range 5).all fun c=>(List.range 5).all fun d=>(List.range 5).all fun e=>P (j8 n b c d e)
theorem Ss:mO 0 (fun S=>!canon S||kM S)=true:=by kernel_rfl
theorem Su:mO 1 (fun S=>!canon S||kM S)=true:=by kernel_rfl
theorem Sv:mO 2 (fun S=>!canon S||kM S)=true:=by kernel_rfl
theorem Sw:mO 3 (fun S=>!canon S||kM S)=true:=by kernel_rfl
theorem Sy:mO 4 (fun S=>!canon S||kM S)=true:=by kernel_rfl
theorem EB:kD 5 (kas_sort 5)=true:=by kernel_rfl
theorem Cz{P Q:Nat→Bool}:∀(l:List Nat) (x:Nat),(∀a∈l,P a=true→Q a=true)→x∈l→Q x=true→P x=false→l.countP P<l.countP Q:=by
 intro l
 induction l with
 | nil=>intro x _ hx _ _;cases hx
 | cons a r rc=>
  intro x h hx hq hp;have hr:r.countP P≤r.countP Q:=List.countP_mono_left fun b hb=>h b (mem_cons_of_mem _ hb);rw [List.countP_cons,List.countP_cons];rcases mem_cons.mp hx with rfl|hx
  ·rw [hq,hp];simp;omega
  ·have ih:=rc x (fun b hb=>h b (mem_cons_of_mem _ hb)) hx hq hp;have ha:=h a mem_cons_self;cases hpa:P a with
   | true=>rw [ha hpa];simp;omega
   | false=>simp;split<;>omega
theorem Us(S:Nat→Nat){a b:Nat}(ha:a<5):rank S a<rank S b↔S a<S b:=by
 constructor
 ·intro h
  by_cases hs:S a<S b
  ·exact hs
  ·exfalso;have:rank S b≤rank S a:=List.countP_mono_left fun c Z hc=>by
    simp at hc ⊢;lia
   lia
 ·intro h;refine Cz _ a (fun c Z hc=>?_) (mem_range.mpr ha) (by simpa using h) (by simp)
  simp at hc ⊢;lia
theorem sI(S:Nat→Nat)(h:Nat)(hh:h<5):rank S h<5:=by
 have:rank S h<(List.range 5).countP fun Z=>true:=Cz _ h (fun Z Z Z=>rfl) (mem_range.mpr hh) rfl (by simp)
 simpa using this
theorem Px(h:∀a∈b,(S a≤S e↔T a≤T e)):dB S b e=dB T b e:=by
 have:cntK S b e=cntK T b e:=by
  unfold cntK;exact List.countP_congr fun a ha=>by simp [h a ha]
 unfold dB;rw [this]
theorem EC:x∈dB S b e↔x=e∨x∈b:=by
 unfold dB;have h:x∈b↔x∈b.take (cntK S b e)∨x∈b.drop (cntK S b e):=by
  rw [←mem_append,List.take_append_drop]
 rw [h];simp only [mem_append,mem_cons];constructor
 ·rintro (h|h|h)
  ·exact .inr (.inl h)
  ·exact .inl h
  ·exact .inr (.inr h)
 ·rintro (h|h|h)
  ·exact .inr (.inl h)
  ·exact .inl h
  ·exact .inr (.inr h)
theorem Dz:∀(l:List Nat) (b:List Nat) (x:Nat),x∈l.foldl (dB S) b→x∈l∨x∈b:=by
 intro l
 induction l with
 | nil=>intro b x h;exact .inr h
 | cons e l rc=>
  intro b x h;rcases rc (dB S b e) x h with h|h
  ·exact .inl (mem_cons_of_mem _ h)
  ·rcases EC.mp h with rfl|h
   ·exact .inl mem_cons_self
   ·exact .inr h
theorem S7(hst:∀a<5,∀b<5,(S a≤S b↔T a≤T b)):bz S=bz T:=by
 have:∀(l:List Nat) (b:List Nat),(∀a∈l,a<5)→(∀a∈b,a<5)→l.foldl (dB S) b=l.foldl (dB T) b:=by
  intro l
  induction l with
  | nil=>intro b _ _;rfl
  | cons e r ih=>
   intro b h1 h2;rw [foldl_cons,foldl_cons,Px (T:=T) fun a ha=>hst a (h2 a ha) e (h1 e mem_cons_self)];refine ih _ (fun a ha=>h1 a (mem_cons_of_mem _ ha)) fun a ha=>?_;rcases EC.mp ha with rfl|ha
   ·exact h1 _ mem_cons_self
   ·exact h2 a ha
 exact this _ _ (fun a ha=>mem_range.mp ha) (fun a ha=>by cases ha)
theorem GQ{α:Type}{n:Nat}{c d:Nat→Nat→Bool}(h:∀i<n,∀j<n,c i j=d i j):∀t:KasT α,kD n t=true→n9 c t=n9 d t
 | .ret _,_=>rfl
 | .ask i j t,hr=>by
  refine bO (inR hr) ?_;intro h1 h2 h3;show n9 c (t (c i j))=n9 d (t (d i j));rw [h i h1 j h2];exact GQ h (t (d i j)) (h3 _)
theorem uU(S:Nat→Nat):∀i<5,(nK S).getD i 0=((S i:Nat):Int):=by
 refine b8 ?_ ?_ ?_ ?_ ?_<;>rfl
theorem TG(hst:∀a<5,∀b<5,(S a<S b↔T a<T b)):eH (nK S)=eH (nK T):=by
 unfold eH;refine GQ (n:=5) (fun i hi j hj=>?_) _ EB;rw [uU S i hi,uU S j hj,uU T i hi,uU T j hj];have:=hst i hi j hj
 by_cases h:S i<S j
 ·rw [decide_eq_true (by lia),decide_eq_true (by have:=this.mp h;lia)]
 ·rw [decide_eq_false (by lia),decide_eq_false (by have:=mt this.mpr h;lia)]
theorem yc(T:Nat→Nat):∀h<5,T h=j8 (T 0) (T 1) (T 2) (T 3) (T 4) h:=by
 refine b8 ?_ ?_ ?_ ?_ ?_<;>rfl
theorem vt(S:Nat→Nat):(eH (nK S)).toList=bz S∧(bz S).length=5∧∀h<5,h∈bz S:=by
 have hlt:∀a<5,∀b<5,(S a<S b↔j8 (rank S 0) (rank S 1) (rank S 2) (rank S 3) (rank S 4) a<j8 (rank S 0) (rank S 1) (rank S 2) (rank S 3) (rank S 4) b):=fun a ha b hb=>by
  rw [←yc (rank S) a ha,←yc (rank S) b hb,Us S ha]
 have hle:∀a<5,∀b<5,(S a≤S b↔j8 (rank S 0) (rank S 1) (rank S 2) (rank S 3) (rank S 4) a≤j8 (rank S 0) (rank S 1) (rank S 2) (rank S 3) (rank S 4) b):=fun a ha b hb=>by
  exact (not_lt.symm.trans (not_congr (hlt b hb a ha))).trans not_lt
 have hc:canon (j8 (rank S 0) (rank S 1) (rank S 2) (rank S 3) (rank S 4))=true:=by
  unfold canon;rw [all_eq_true];intro h hh;have hh:=mem_range.mp hh;rw [beq_iff_eq,←yc (rank S) h hh];unfold rank;refine List.countP_congr fun a ha=>?_;have:=hlt a (mem_range.mp ha) h hh;simp only [decide_eq_true_eq];exact this.symm
 have hk:∀n,mO n (fun S=>!canon S||kM S)=true→rank S 0=n→kM (j8 (rank S 0) (rank S 1) (rank S 2) (rank S 3) (rank S 4))=true:=by
  intro n hn e;unfold mO at hn;simp only [all_eq_true] at hn;have:=hn (rank S 1) (mem_range.mpr (sI S 1 (by decide))) (rank S 2) (mem_range.mpr (sI S 2 (by decide))) (rank S 3) (mem_range.mpr (sI S 3 (by decide))) (rank S 4) (mem_range.mpr (sI S 4 (by decide)))
  rw [←e,hc] at this;simpa using this
 have h0:=sI S 0 (by decide)
 have hO:kM (j8 (rank S 0) (rank S 1) (rank S 2) (rank S 3) (rank S 4))=true:=by
  by_cases e0:rank S 0=0
  ·exact hk 0 Ss e0
  by_cases e1:rank S 0=1
  ·exact hk 1 Su e1
  by_cases e2:rank S 0=2
  ·exact hk 2 Sv e2
  by_cases e3:rank S 0=3
  ·exact hk 3 Sw e3
  ·exact hk 4 Sy (by lia)
 unfold kM at hO;rw [←S7 hle,←TG hlt] at hO;simp only [and_eq_true,beq_iff_eq,decide_eq_true_eq,all_eq_true,List.contains_iff_mem] at hO;exact⟨hO.1.1,hO.1.2,fun h hh=>hO.2 h (mem_range.mpr hh)⟩
theorem zZ(h:x∈bz S):x<5:=by
 rcases Dz _ _ _ h with h|h
 ·exact mem_range.mp h
 ·cases h
end
noncomputable def eG(n:Nat):PyData:=.int (n:Int)
theorem VU:∀l:List Nat,V.jY (l.map nat)=some (l.map eG):=by
 intro l
 induction l with
 | nil=>exact rfl
 | cons a r rc=>show ((nat a).toPy).bind (fun d=>(V.jY (r.map nat)).map fun ds=>d::ds)=_;rw [rc];rfl
theorem QL:∀l:List Nat,canLayAll0 (l.map eG)=true:=by
 intro l
 induction l with
 | nil=>exact rfl
 | cons a r rc=>show (PyData.canLay0 (eG a)&&canLayAll0 (r.map eG))=true;rw [rc];rfl
theorem Lu:∀l:List Nat,depthAll (l.map eG)=0:=by
 intro l
 induction l with
 | nil=>exact rfl
 | cons a r rc=>show max (PyData.depth (eG a)) (depthAll (r.map eG))=0;rw [rc];rfl
theorem LK:∀a b:List Nat,eqvAll (a.map eG) (b.map eG)=decide (a=b):=by
 intro a
 induction a with
 | nil=>intro b;cases b<;>rfl
 | cons x a rc=>
  intro b;cases b with
  | nil=>rfl
  | cons y b=>
  show (eqv (eG x) (eG y)&&eqvAll (a.map eG) (b.map eG))=_;rw [rc b];have:eqv (eG x) (eG y)=decide (x=y):=by
   show ((x:Int)==(y:Int))=_
   by_cases h:x=y
   ·subst h;simp
   ·rw [decide_eq_false h];have:(x:Int)≠y:=by lia
    simpa using this
  rw [this]
  by_cases h1:x=y<;>by_cases h2:a=b<;>simp [h1,h2]
theorem GY(l:List Nat):SeqAt.shaped (.list (l.map eG))=true:=by
 unfold SeqAt.shaped;rw [and_eq_true];refine⟨QL l,decide_eq_true ?_⟩;show depthAll (l.map eG)+1≤64;rw [Lu];decide
theorem CW(a b:List Nat):mX (sub a) (sub b)=some (decide (a=b)):=by
 have h:∀l,(sub l).toPy=some (.list (l.map eG)):=fun l=>by
  show (V.jY (l.map nat)).map PyData.list=_;rw [VU];rfl
 unfold mX;rw [h a,h b];simp only [bind_some];rw [GY,GY];show some (eqvAll (a.map eG) (b.map eG))=_;rw [LK]
theorem La{σ:aa}{u v:V}{a b:List Nat}(hu:listOf σ u=some (a.map nat))(hv:listOf σ v=some (b.map nat)):cQ σ .Eq u v=some (decide (a=b)):=by
 have e:cQ σ .Eq u v=mX (flat σ u) (flat σ v):=by
  unfold cQ;rfl
 rw [e];have h:∀w (l:List Nat),listOf σ w=some (l.map nat)→flat σ w=sub l:=fun w l h=>by unfold flat;rw [h];rfl
 rw [h u a hu,h v b hv,CW]
theorem Cs{σ:aa}{u v:V}{a b:List Nat}(hu:listOf σ u=some (a.map nat))(hv:listOf σ v=some (b.map nat)):cQ σ .NotEq u v=some (!decide (a=b)):=by
 have e:cQ σ .NotEq u v=(mX (flat σ u) (flat σ v)).map (!·):=by
  unfold cQ;rfl
 rw [e];have h:∀w (l:List Nat),listOf σ w=some (l.map nat)→flat σ w=sub l:=fun w l h=>by unfold flat;rw [h];rfl
 rw [h u a hu,h v b hv,CW];rfl
noncomputable def l5:b9:=fnOf "_law_other" 191 190
noncomputable def z0:List Stmt:=fnBody "_law_other"
noncomputable def z3:Stmt:=sN ((z0.drop 1).drop 1) 0
noncomputable def Gd:Stmt:=sN (((z0.drop 1).drop 1).drop 1) 0
noncomputable def kN:Stmt:=sN ((((z0.drop 1).drop 1).drop 1).drop 1) 0
noncomputable def S3:fU:=vQ "_law_other.<locals>.<lambda>" (rX (br (sN (aW z3) 0)))
noncomputable def S4:fU:=vQ "_law_other.<locals>.<lambda>" (rX (eN (bh (bR Gd)) 1))
theorem GS(k:Nat)(S:Nat→Nat)(σ:aa):∀h<5,(CC (k+1)).call (.aE S3 [wv S]) [nat h] none σ=some (nat (S h),σ):=by
 intro h hh;refine Eq.trans (b:=some (cD σ.length σ (nat (S h)))) ?_ (by rw [lF];exact 0)
 revert h;refine b8 ?_ ?_ ?_ ?_ ?_<;>kernel_rfl!
theorem US(k:Nat)(S:Nat→Nat)(σ:aa):∀h<5,(CC (k+1)).call (.aE S4 [wv S]) [nat h] none σ=some (nat (S h),σ):=by
 intro h hh;refine Eq.trans (b:=some (cD σ.length σ (nat (S h)))) ?_ (by rw [lF];exact 0)
 revert h;refine b8 ?_ ?_ ?_ ?_ ?_<;>kernel_rfl!
noncomputable def aR(σ:aa)(left:Nat→Nat)(o P:List Nat)(j:aa):aa:=σ++([eE left,.list (o.map nat),.list (P.map nat)]++j)
theorem Ge(σ:aa)(left:Nat→Nat)(o P:List Nat)(j:aa):(aR σ left o P j)[σ.length]?=some (.list (lv left)):=by
 unfold aR;rw [getElem?_append_right (le_refl _),Nat.sub_self];rfl
theorem z4(σ:aa)(left:Nat→Nat)(o P:List Nat)(j:aa):(aR σ left o P j)[σ.length+1]?=some (.list (o.map nat)):=by
 unfold aR;rw [getElem?_append_right (by lia),Nat.add_sub_cancel_left];rfl
theorem vA(σ:aa)(left:Nat→Nat)(o P:List Nat)(j:aa):(aR σ left o P j)[σ.length+2]?=some (.list (P.map nat)):=by
 unfold aR;rw [getElem?_append_right (by lia),Nat.add_sub_cancel_left];rfl
theorem Td(σ:aa)(left g:Nat→Nat)(o P:List Nat)(j:aa):(aR σ left o P j).set σ.length (.list (lv g))=aR σ g o P j:=by
 unfold aR;rw [List.set_append_right _ _ (le_refl _),Nat.sub_self];rfl
theorem Te(σ:aa)(left:Nat→Nat)(o o' P:List Nat)(j:aa):(aR σ left o P j).set (σ.length+1) (.list (o'.map nat))=aR σ left o' P j:=by
 unfold aR;rw [List.set_append_right _ _ (by lia),Nat.add_sub_cancel_left];rfl
theorem Tf(σ:aa)(left:Nat→Nat)(o P P':List Nat)(j:aa):(aR σ left o P j).set (σ.length+2) (.list (P'.map nat))=aR σ left o P' j:=by
 unfold aR;rw [List.set_append_right _ _ (by lia),Nat.add_sub_cancel_left];rfl
noncomputable def dF(S W:Nat→Nat)(d:Int)(n:Nat)(x:List (Str×V)):ao:=aJ l5 ([(("sizes":Str),wv S),(("ways":Str),wv W),(("draw":Str),.int d),(("left":Str),.loc n),(("order":Str),.loc (n+1)),(("picked":Str),.loc (n+2))]++x)
section
variable(k:Nat){S W:Nat→Nat}{d:Int}{σ:aa}
theorem S6(l:List Nat):∀b:List Nat,b.Pairwise (fun a c=>S a≤S c)→(l.foldl (dB S) b).Pairwise (fun a c=>S a≤S c):=by
 induction l with
 | nil=>intro b h;exact h
 | cons e r ih=>
  intro b h;refine ih _ ?_;have hiff:∀i x,b[i]?=some x→(i<cntK S b e↔S x≤S e):=fun i x hx=>by
   have:=tU (P:=fun a:Nat=>decide (S a≤S e)) b (h.imp (by intro a c hac hcc;simp at hcc ⊢;lia)) i x hx
   exact this.trans (by simp)
  unfold dB;rw [List.pairwise_append,List.pairwise_cons];have h1:∀x∈b.take (cntK S b e),S x≤S e:=by
   intro x hx;refine aA (mem_iff_getElem?.mp hx) ?_;intro i hi;rw [List.getElem?_take] at hi
   split at hi
   ·rename_i hlt;exact (hiff _ _ hi).mp hlt
   ·cases hi
  have h2:∀x∈b.drop (cntK S b e),S e≤S x:=by
   intro x hx;refine aA (mem_iff_getElem?.mp hx) ?_;intro i hi;rw [List.getElem?_drop] at hi
   by_cases hc:S x≤S e
   ·have:=(hiff _ _ hi).mpr hc;lia
   ·lia
  refine⟨h.sublist (List.take_sublist _ _),⟨h2,h.sublist (List.drop_sublist _ _)⟩,?_⟩;intro x hx y hy;rw [mem_cons] at hy;rcases hy with rfl|hy
  ·exact h1 x hx
  ·exact le_trans (h1 x hx) (h2 y hy)
theorem Py(b:List Nat)(e:Nat):(dB S b e).length=b.length+1:=by
 unfold dB;have:cntK S b e≤b.length:=countP_le_length;rw [List.length_append,length_cons,length_take,length_drop,min_eq_left this,←add_assoc,Nat.add_sub_cancel' this]
theorem MY:∀(l b:List Nat),(l.foldl (dB S) b).length=b.length+l.length:=by
 intro l
 induction l with
 | nil=>intro b;exact rfl
 | cons e l rc=>intro b;rw [foldl_cons,rc,Py,length_cons,Nat.add_right_comm];rfl
theorem Tc(left:Nat→Nat):∃u,aZ (CC (k+3)) 97 (dF S W d σ.length []) z3 (aR σ left [] [] [])=some (.next,dF S W d σ.length (kv "h" u),aR σ left (bz S) [] []):=by
 obtain⟨cG,σ2,⟨rfl,x,hx,rfl⟩,h⟩:=iP (C:=CC (k+3)) (n:=95) (st:=z3) (me:=dF S W d σ.length []) (σ:=aR σ left [] [] []) (σ':=aR σ left [] [] []) (g:=nat) (L:=List.range 5)
  (fun done me s=>s=aR σ left (done.foldl (dB S) []) [] []∧∃x,(done=[]∧x=[]∨∃u,x=kv "h" u)∧me=dF S W d σ.length x)
  (by kernel_rfl!) (by kernel_rfl!) (by kernel_rfl!) (by kernel_rfl!) ⟨rfl,[],.inl ⟨rfl,rfl⟩,rfl⟩
  (fun done h rest me s hM hI=>by
   obtain⟨rfl,x,hx,rfl⟩:=hI;have hh:h<5:=mem_range.mp (by rw [hM];simp)
   have hdl:done.length≤5:=by
    have:=congrArg length hM;simp at this;lia
   have NP:(done.foldl (dB S) []).length≤5:=by rw [MY];simpa using hdl
   have D5:∀a∈done.foldl (dB S) [],a<5:=fun a ha=>by
    rcases Dz _ _ _ ha with h'|h'
    ·exact mem_range.mp (by rw [hM];simp [h'])
    ·cases h'
   have rI:=S6 (S:=S) done [] Pairwise.nil;rw [pC];generalize done.foldl (dB S) []=b at NP D5 rI;have hiff:∀i y,b[i]?=some y→(i<cntK S b h↔S y≤S h):=fun i y hy=>by
    have:=tU (P:=fun a:Nat=>decide (S a≤S h)) b (rI.imp (by intro a c hac hcc;simp at hcc ⊢;lia)) i y hy
    exact this.trans (by simp)
   have hget:∀i it,(b.map nat)[i]?=some it→it=nat (b.getD i 0)∧b.getD i 0<5:=fun i it hi=>by
    rw [getElem?_map] at hi;refine aj (map_eq_some_iff.mp hi) ?_;rintro c hc rfl;rw [getD_eq_getElem?_getD,hc];exact⟨rfl,D5 c (mem_of_getElem? hc)⟩
   have Eb:=EE k (S:=S3) (caps:=[wv S]) (items:=b.map nat) (m:=σ.length+1) (x:=nat h) (kx:=S h) (p:=cntK S b h) (K:=fun i=>S (b.getD i 0)) (σ:=aR σ left b [] []) (z4 _ _ _ _ _) (by rw [length_map];lia) rfl (GS (k+1) S _ h hh)
    (fun i it hi=>by
     refine au (hget i it hi) ?_;rintro rfl h2;exact GS k S _ _ h2)
    (by rw [length_map];exact countP_le_length)
    (fun i hi=>by
     have hcl:cntK S b h≤b.length:=countP_le_length;have hlt:i<b.length:=by lia
     have h1:=(hiff i _ (getElem?_eq_getElem hlt)).mp hi;simpa [getD_eq_getElem?_getD,getElem?_eq_getElem hlt] using h1)
    (fun i h1 h2=>by
     rw [length_map] at h2;have h3:=mt (hiff i _ (getElem?_eq_getElem h2)).mpr (by lia)
     simpa [getD_eq_getElem?_getD,getElem?_eq_getElem h2] using h3)
   have gh:(aR σ left b [] []).set (σ.length+1) (.list ((b.map nat).take (cntK S b h)++nat h::(b.map nat).drop (cntK S b h)))=aR σ left (dB S b h) [] []:=by
    have:(b.map nat).take (cntK S b h)++nat h::(b.map nat).drop (cntK S b h)=(dB S b h).map nat:=by
     unfold dB;rw [map_append,map_cons,List.map_take,List.map_drop]
    rw [this,Te]
   rw [gh] at Eb;refine⟨dF S W d σ.length (kv "h" (nat h)),_,_,?_,aF (by kernel_rfl!) (n7 (by kernel_rfl!) (sH (by kernel_rfl!) (fv:=.base 114) (vs:=[.loc (σ.length+1),nat h]) (σ':=aR σ left b [] []) (by kernel_rfl!) (by kernel_rfl!) (kv:=.aE S3 [wv S]) (bA:=aR σ left b [] []) (by kernel_rfl!) Eb)) (bC (by kernel_rfl!)),rfl,_,.inr ⟨_,rfl⟩,rfl⟩
   rcases hx with⟨_,rfl⟩|⟨u,rfl⟩<;>kernel_rfl!)
 rcases hx with⟨hn,_⟩|⟨u,rfl⟩
 ·cases hn
 ·exact⟨u,h⟩
end
theorem uy(a b:Nat):decide ((a:Int)>(b:Int))=decide (b<a):=by
 by_cases h:b<a
 ·rw [decide_eq_true h,decide_eq_true (by lia)]
 ·rw [decide_eq_false h,decide_eq_false (by lia)]
theorem Q5(a b:Nat):decide ((a:Int)<(b:Int))=decide (a<b):=by
 by_cases h:a<b
 ·rw [decide_eq_true h,decide_eq_true (by lia)]
 ·rw [decide_eq_false h,decide_eq_false (by lia)]
theorem TL:∀l:List Nat,(∀x∈l,x<5)→l.filterMap ([nat 0,nat 1,nat 2,nat 3,nat 4][·]?)=l.map nat:=by
 intro l
 induction l with
 | nil=>intro _;exact rfl
 | cons a r rc=>
  intro h;have ha:=h a mem_cons_self;have:([nat 0,nat 1,nat 2,nat 3,nat 4][a]?:Option V)=some (nat a):=by
   clear h;revert a;refine b8 ?_ ?_ ?_ ?_ ?_<;>rfl
  rw [List.filterMap_cons_some this,rc fun x hx=>h x (mem_cons_of_mem _ hx),map_cons]
theorem Vc(k:Nat)(S:Nat→Nat)(σ:aa):(CC (k+2)).call (.bi "sorted") [.lst [nat 0,nat 1,nat 2,nat 3,nat 4]] (some (.aE S4 [wv S])) σ=some (.lst ((bz S).map nat),σ):=by
 refine bO (vt S) ?_;intro h1 h2 h3;have hk:nJ (CC (k+1)) (.aE S4 [wv S]) [nat 0,nat 1,nat 2,nat 3,nat 4] σ=some (nK S,σ):=by
  have hc:=US k S σ;exact aK (hc 0 (by decide)) (cS (aK (hc 1 (by decide)) (cS (aK (hc 2 (by decide)) (cS (aK (hc 3 (by decide)) (cS (aK (hc 4 (by decide)) (cS rfl rfl)) rfl)) rfl)) rfl)) rfl)
 show vR (CC (k+1)) (.aE S4 [wv S]) [nat 0,nat 1,nat 2,nat 3,nat 4] σ=_;unfold vR;have ho:zU (nK S) 5=true:=by
  unfold zU;rw [EB,h1,Bool.true_and,all_eq_true];intro i hi;exact decide_eq_true (zZ hi)
 refine (if_pos ⟨by decide,by decide⟩).trans (aK hk ((if_pos ho).trans ?_))
 unfold gX;rw [h1,TL _ fun x hx=>zZ hx]
theorem FN(σ:aa)(a b:Int)(h:b≠0):iC σ .Mod (.int a) (.int b)=some (.int (fmod a b)):=by
 have e:kE .Mod a b=some (fmod a b):=if_pos h;show ((kE .Mod a b).map V.int).or _=_;rw [e];rfl
noncomputable def pQ(d:Int)(j:Nat):Nat:=(fmod (d+(j:Int)) 5).toNat
theorem EP(d:Int)(j:Nat):pQ d j<5:=by
 have h1:=fmod_nonneg_of_pos (d+(j:Int)) (b:=5) (by decide)
 have h2:=fmod_lt_of_pos (d+(j:Int)) (b:=5) (by decide)
 exact (toNat_lt h1).mpr h2
noncomputable def hN(S:Nat→Nat)(d:Int)(j:Nat):Nat:=(bz S).getD (pQ d j) 0
theorem uC(S:Nat→Nat)(d:Int)(j:Nat):hN S d j<5:=by
 have h1:=EP d j;have h2:=(vt S).2.1;unfold hN;rw [getD_eq_getElem?_getD,getElem?_eq_getElem (by lia)]
 exact zZ (List.getElem_mem _)
noncomputable def bN(d:Int)(j:Nat):Bool:=decide (Builtin.bitAnd (fdiv (fdiv d 5) (2^j)) 1≠0)
noncomputable def gB(d:Int)(s:Nat):Nat:=s - 1 - (fmod (fdiv d 160) (s:Int)).toNat
theorem Sq(d:Int){s:Nat}(h:0<s):gB d s<s:=lt_of_le_of_lt (sub_le _ _) (sub_lt h Nat.one_pos)
theorem Sm{s m:Nat}(h:0<s)(h2:m<s):(s:Int) - 1 - (m:Int)=((s - 1 - m:Nat):Int):=by
 rw [Int.ofNat_sub (Nat.le_sub_one_of_lt h2),Int.ofNat_sub h];rfl
theorem So(d:Int){s:Nat}(h:0<s):(s:Int) - 1 - fmod (fdiv d 160) (s:Int)=((gB d s:Nat):Int):=by
 have h0:(0:Int)<s:=Int.natCast_pos.mpr h;have h1:=fmod_nonneg_of_pos (fdiv d 160) h0;have h2:=fmod_lt_of_pos (fdiv d 160) h0;unfold gB;generalize fmod (fdiv d 160) (s:Int)=x at h1 h2;refine aA (Int.eq_ofNat_of_zero_le h1) ?_;rintro m rfl;exact Sm h (ofNat_lt.mp h2)
noncomputable def okN(S W:Nat→Nat)(d:Int)(P:List Nat)(j:Nat):Bool:=decide (0<S (hN S d j))&&((P.isEmpty||bN d j)&&!c9 W (P++[hN S d j]))
noncomputable def cK(S W:Nat→Nat)(d:Int)(s:List Nat×(Nat→Nat))(j:Nat):List Nat×(Nat→Nat):=
 if okN S W d s.1 j then (s.1++[hN S d j],fun h=>if h=hN S d j then gB d (S (hN S d j)) else s.2 h) else s
noncomputable def l6(S W:Nat→Nat)(d:Int):Nat→Nat:=((List.range 5).foldl (cK S W d) ([],S)).2
theorem Tg(S W:Nat→Nat)(d:Int):∀(l:List Nat) (s:List Nat×(Nat→Nat)),(∀x∈s.1,x<5)→(l.foldl (cK S W d) s).1.length≤s.1.length+l.length∧∀x∈(l.foldl (cK S W d) s).1,x<5:=by
 intro l
 induction l with
 | nil=>intro s h;exact⟨by simp,h⟩
 | cons j r rc=>
  intro s h;rw [foldl_cons];have h1:∀x∈(cK S W d s j).1,x<5:=by
   unfold cK
   split
   ·intro x hx;rcases mem_append.mp hx with hx|hx
    ·exact h x hx
    ·rw [mem_singleton] at hx;subst hx;exact uC S d j
   ·exact h
  have h2:(cK S W d s j).1.length≤s.1.length+1:=by
   unfold cK;split<;>simp
  refine au (rc _ h1) ?_;intro h3 h4;refine⟨?_,h4⟩;rw [length_cons];lia
section
variable(k:Nat){S W:Nat→Nat}{d:Int}{σ:aa}
theorem S9(j:Nat)(hj:j<5)(P:List Nat)(left:Nat→Nat)(J:aa)(u v:V)(hP:∀x∈P,x<5)(WU:P.length≤5) :
 ∃u' J',aU (CC (k+3)) 94 (dF S W d σ.length (kv "h" u++kv "j" (nat j))) (aW kN) (aR σ left (bz S) P J) =
  some (.next,dF S W d σ.length (kv "h" u'++kv "j" (nat j)),aR σ (cK S W d (P,left) j).2 (bz S) (cK S W d (P,left) j).1 J'):=by
 have hh:=uC S d j;have hix:=EP d j;have lM:=(vt S).2.1;have s0:aZ (CC (k+3)) 93 (dF S W d σ.length (kv "h" u++kv "j" (nat j))) (sN (aW kN) 0) (aR σ left (bz S) P J)=some (.next,dF S W d σ.length (kv "h" (nat (hN S d j))++kv "j" (nat j)),aR σ left (bz S) P J):=by
  refine dO (by kernel_rfl!) (v:=nat (hN S d j)) (jW (by kernel_rfl!) (o:=.loc (σ.length+1)) (j:=((pQ d j:Nat):Int)) (σ':=aR σ left (bz S) P J) (by kernel_rfl!) ?_ ?_) (by kernel_rfl!)
  ·have:((pQ d j:Nat):Int)=fmod (d+(j:Int)) 5:=by
    have h1:=fmod_nonneg_of_pos (d+(j:Int)) (b:=5) (by decide)
    exact toNat_of_nonneg (fmod_nonneg_of_pos _ (b:=5) (by decide))
   rw [this];kernel_rfl!
  ·rw [nH (z4 _ _ _ _ _) (by lia)]
   unfold hN;rw [getElem?_map,getD_eq_getElem?_getD,getElem?_eq_getElem (by lia)];rfl
 generalize nk:hN S d j=h at s0 hh;have t1:aX (CC (k+3)) 90 (dF S W d σ.length (kv "h" (nat h)++kv "j" (nat j))) (eN (bh (bR (sN ((aW kN).drop 1) 0))) 0) (aR σ left (bz S) P J)=some (decide (0<S h),aR σ left (bz S) P J):=by
  refine fF (by kernel_rfl!) (a:=nat (S h)) (b:=nat 0) (σ':=aR σ left (bz S) P J) ?_ (by kernel_rfl!) ?_
  ·clear s0 nk;revert h;refine b8 ?_ ?_ ?_ ?_ ?_<;>kernel_rfl!
  ·exact congrArg some (uy (S h) 0)
 have hj1:aR σ left (bz S) P J++[.list []]=aR σ left (bz S) P (J++[.list []]):=by unfold aR;simp
 have t2:aX (CC (k+3)) 90 (dF S W d σ.length (kv "h" (nat h)++kv "j" (nat j))) (eN ((bh (bR (sN ((aW kN).drop 1) 0))).drop 1) 0) (aR σ left (bz S) P J)=some (P.isEmpty||bN d j,aR σ left (bz S) P (J++[.list []])):=by
  have c1:aX (CC (k+3)) 89 (dF S W d σ.length (kv "h" (nat h)++kv "j" (nat j))) (eN (bh (eN ((bh (bR (sN ((aW kN).drop 1) 0))).drop 1) 0)) 0) (aR σ left (bz S) P J)=some (P.isEmpty,aR σ left (bz S) P (J++[.list []])):=by
   refine fF (by kernel_rfl!) (a:=.loc (σ.length+2)) (b:=.loc (aR σ left (bz S) P J).length) (σ':=aR σ left (bz S) P J) (by kernel_rfl!) ?_ ?_
   ·rw [←hj1];kernel_rfl!
   ·have:P.isEmpty=decide (P=[]):=by cases P<;>simp
    rw [this];refine La (kH (vA _ _ _ _ _)) (b:=[]) (kH ?_);rw [←hj1];exact Fb
  have c2:aX (CC (k+3)) 89 (dF S W d σ.length (kv "h" (nat h)++kv "j" (nat j))) (eN ((bh (eN ((bh (bR (sN ((aW kN).drop 1) 0))).drop 1) 0)).drop 1) 0) (aR σ left (bz S) P (J++[.list []]))=some (bN d j,aR σ left (bz S) P (J++[.list []])):=by
   refine n8 (by kernel_rfl!) (v:=.int (Builtin.bitAnd (fdiv (fdiv d 5) (2^j)) 1)) ?_ rfl
   clear s0 nk t1 c1 hix;revert j;refine b8 ?_ ?_ ?_ ?_ ?_<;>kernel_rfl!
  refine g6 (by kernel_rfl!) ?_
  cases hp:P.isEmpty with
  | true=>exact qp (by kernel_rfl!) (c1.trans (by rw [hp]))
  | false=>
   refine mh (by kernel_rfl!) (c1.trans (by rw [hp])) ?_
   cases hb:bN d j with
   | true=>exact qp (by kernel_rfl!) (c2.trans (by rw [hb]))
   | false=>exact mh (by kernel_rfl!) (c2.trans (by rw [hb])) (vJ (by kernel_rfl!))
 have t3:aX (CC (k+3)) 90 (dF S W d σ.length (kv "h" (nat h)++kv "j" (nat j))) (eN (((bh (bR (sN ((aW kN).drop 1) 0))).drop 1).drop 1) 0) (aR σ left (bz S) P (J++[.list []]))=some (!c9 W (P++[h]),aR σ left (bz S) P (J++[.list []])):=by
  refine Gz (by kernel_rfl!) (n8 (by kernel_rfl!) (v:=.bool (c9 W (P++[h]))) ?_ rfl)
  refine cN (by kernel_rfl!) (fv:=.base 174) (vs:=[sub (P++[h]),wv W]) (σ':=aR σ left (bz S) P (J++[.list []])) (by kernel_rfl!) (eV (σ':=aR σ left (bz S) P (J++[.list []])) (by kernel_rfl!) ?_ (by kernel_rfl!)) (GL (k+1) W (P++[h]) ?_ (by simp;lia) _)
  ·refine fZ (by kernel_rfl!) (a:=.loc (σ.length+2)) (b:=.lst [nat h]) (σ':=aR σ left (bz S) P (J++[.list []])) (by kernel_rfl!) (by kernel_rfl!) ?_
   show iC _ .Add _ _=_;rw [add_lists (kH (vA _ _ _ _ _)) (by rw [show sizeLine=2^24 from rfl];simp;lia)]
   unfold sub;rw [map_append];rfl
  ·intro x hx;rcases mem_append.mp hx with hx|hx
   ·exact hP x hx
   ·rw [mem_singleton] at hx;subst hx;exact hh
 have tt:∃J',aX (CC (k+3)) 91 (dF S W d σ.length (kv "h" (nat h)++kv "j" (nat j))) (bR (sN ((aW kN).drop 1) 0)) (aR σ left (bz S) P J)=some (okN S W d P j,aR σ left (bz S) P J'):=by
  unfold okN;rw [nk];cases h1:decide (0<S h) with
  | false=>rw [h1] at t1;exact⟨J,g6 (by kernel_rfl!) (l8 (by kernel_rfl!) t1)⟩
  | true=>
   rw [h1] at t1;cases h2:(P.isEmpty||bN d j) with
   | false=>rw [h2] at t2;exact⟨_,g6 (by kernel_rfl!) (gZ (by kernel_rfl!) t1 (l8 (by kernel_rfl!) t2))⟩
   | true=>
    rw [h2] at t2;cases h3:c9 W (P++[h]) with
    | true=>rw [h3] at t3;exact⟨_,g6 (by kernel_rfl!) (gZ (by kernel_rfl!) t1 (gZ (by kernel_rfl!) t2 (l8 (by kernel_rfl!) t3)))⟩
    | false=>rw [h3] at t3;exact⟨_,g6 (by kernel_rfl!) (gZ (by kernel_rfl!) t1 (gZ (by kernel_rfl!) t2 (gZ (by kernel_rfl!) t3 (Ae (by kernel_rfl!)))))⟩
 refine aA tt ?_;clear tt;intro J' tt;refine⟨nat h,J',aF (by kernel_rfl!) s0 ?_⟩
 cases hok:okN S W d P j with
 | false=>
  have:cK S W d (P,left) j=(P,left):=by unfold cK;rw [if_neg (by rw [hok];decide)]
  rw [this];rw [hok] at tt;exact aF (by kernel_rfl!) (cL (by kernel_rfl!) tt (bC (by kernel_rfl!))) (bC (by kernel_rfl!))
 | true=>
  have hs:0<S h:=by
   have h0:=hok;unfold okN at h0;rw [nk] at h0;simp only [and_eq_true,decide_eq_true_eq] at h0;exact h0.1
  have:cK S W d (P,left) j=(P++[h],fun x=>if x=h then gB d (S h) else left x):=by unfold cK;rw [if_pos hok,nk]
  rw [this];rw [hok] at tt;have hap:=xd (k+2) (u:=nat h) (vA σ left (bz S) P J') rfl (by rw [length_map];lia)
  have e1:P.map nat++[nat h]=(P++[h]).map nat:=by rw [map_append];rfl
  rw [e1,Tf] at hap;have gh:kU (aR σ left (bz S) (P++[h]) J') (.loc σ.length) (nat h) (nat (gB d (S h)))=some (aR σ (fun x=>if x=h then gB d (S h) else left x) (bz S) (P++[h]) J'):=by
   rw [GV (Ge _ _ _ _ _) (by lia) hh rfl,Fq left _ h hh,Td]
  refine aF (by kernel_rfl!) (cL (by kernel_rfl!) tt (aF (by kernel_rfl!) (n7 (by kernel_rfl!) (jX (by kernel_rfl!) (ov:=.loc (σ.length+2)) (σ':=aR σ left (bz S) P J') (by kernel_rfl!) (f:=.bi "list.append") ((Ao (k+2) (vA _ _ _ _ _)).trans (by kernel_rfl!)) (vs:=[nat h]) (bA:=aR σ left (bz S) P J') (by kernel_rfl!) hap))
   (aF (by kernel_rfl!) (Gv (by kernel_rfl!) (v:=nat (gB d (S h))) (σ':=aR σ left (bz S) (P++[h]) J') ?_ (o:=.loc σ.length) (bA:=aR σ left (bz S) (P++[h]) J') (by kernel_rfl!) (i:=nat h) (σ₁:=aR σ left (bz S) (P++[h]) J') (by kernel_rfl!) gh) (bC (by kernel_rfl!))))) (bC (by kernel_rfl!))
  have hz:((S h:Nat):Int)≠0:=by lia
  refine fZ (by kernel_rfl!) (a:=.int ((S h:Int) - 1)) (b:=.int (fmod (fdiv d 160) (S h:Int))) (σ':=aR σ left (bz S) (P++[h]) J') ?_ (fZ (by kernel_rfl!) (a:=.int (fdiv d 160)) (b:=nat (S h)) (σ':=aR σ left (bz S) (P++[h]) J') (by kernel_rfl!) ?_ (FN _ _ _ hz)) ?_
  ·clear s0 nk t1 t2 t3 tt this hap gh hs hz e1;revert h;refine b8 ?_ ?_ ?_ ?_ ?_<;>kernel_rfl!
  ·clear s0 nk t1 t2 t3 tt this hap gh hs hz e1;revert h;refine b8 ?_ ?_ ?_ ?_ ?_<;>kernel_rfl!
  ·refine Eq.trans (b:=some (V.int ((S h:Int) - 1 - fmod (fdiv d 160) (S h:Int)))) (by kernel_rfl!) ?_
   rw [So d hs]
end
theorem MD{σ:aa}(h:dU σ)(f:Nat→Nat)(o P:List Nat)(J:aa):cD σ.length (aR σ f o P J) (.loc σ.length)=(wv f,σ):=by
 unfold cD;have e0:j9 σ.length (aR σ f o P J) (.loc σ.length)=.lst (lv f):=by
  exact DC (Ge _ _ _ _ _)
 have e1:(aR σ f o P J).take σ.length=σ:=by unfold aR;rw [take_left]
 rw [e0,e1,h];rfl
theorem Th(k:Nat)(S W:Nat→Nat)(d:Int){σ:aa}(hσ:dU σ):(CC (k+4)).call (.base 191) [wv S,wv W,.int d] none σ=some (wv (l6 S W d),σ):=by
 refine aA (Tc k (S:=S) (W:=W) (d:=d) (σ:=σ) S) ?_;intro u hl1;have hif:aZ (CC (k+3)) 96 (dF S W d σ.length (kv "h" u)) Gd (aR σ S (bz S) [] [])=some (.next,dF S W d σ.length (kv "h" u),aR σ S (bz S) [] []):=by
  refine cL (by kernel_rfl!) (b:=false) (σ':=aR σ S (bz S) [] []) (fF (by kernel_rfl!) (a:=.loc (σ.length+1)) (b:=.lst ((bz S).map nat)) (σ':=aR σ S (bz S) [] []) (by kernel_rfl!) (sH (by kernel_rfl!) (fv:=.bi "sorted") (vs:=[.lst [nat 0,nat 1,nat 2,nat 3,nat 4]]) (σ':=aR σ S (bz S) [] []) (by kernel_rfl!) (by kernel_rfl!) (kv:=.aE S4 [wv S]) (bA:=aR σ S (bz S) [] []) (by kernel_rfl!) (Vc (k+1) S _)) ?_) (bC (by kernel_rfl!))
  refine (Cs (kH (z4 _ _ _ _ _)) rfl).trans ?_;simp
 obtain⟨cG,σ2,⟨x,y,J,hy,rfl,rfl⟩,hl2⟩:=iP (C:=CC (k+3)) (n:=93) (st:=kN) (me:=dF S W d σ.length (kv "h" u)) (σ:=aR σ S (bz S) [] []) (σ':=aR σ S (bz S) [] []) (g:=nat) (L:=List.range 5)
  (fun done me s=>∃u y J,(y=[]∨∃v,y=kv "j" v)∧me=dF S W d σ.length (kv "h" u++y)∧s=aR σ (done.foldl (cK S W d) ([],S)).2 (bz S) (done.foldl (cK S W d) ([],S)).1 J)
  (by kernel_rfl!) (by kernel_rfl!) (by kernel_rfl!) (by kernel_rfl!) ⟨u,[],[],.inl rfl,rfl,rfl⟩
  (fun done j rest me s hM hI=>by
   refine dw hI ?_;clear hI;rintro u y J hy rfl rfl;have hj:j<5:=mem_range.mp (by rw [hM];simp)
   have hdl:done.length≤5:=by
    have:=congrArg length hM;simp at this;lia
   refine au (Tg S W d done ([],S) (fun x hx=>by cases hx)) ?_;intro h1 h2
   obtain⟨u',J',hb⟩:=S9 k (W:=W) (d:=d) (σ:=σ) j hj (done.foldl (cK S W d) ([],S)).1 (done.foldl (cK S W d) ([],S)).2 J u (.none) h2 (by simp at h1;lia)
   refine⟨dF S W d σ.length (kv "h" u++kv "j" (nat j)),_,_,?_,hb,u',_,J',.inr ⟨_,rfl⟩,rfl,?_⟩
   ·rcases hy with rfl|⟨v,rfl⟩<;>kernel_rfl!
   ·rw [pC])
 have hrun:aU (CC (k+3)) 100 (aJ l5 [(("sizes":Str),wv S),(("ways":Str),wv W),(("draw":Str),.int d)]) l5.body σ=some (.ret (.loc σ.length),dF S W d σ.length (kv "h" x++y),aR σ (l6 S W d) (bz S) ((List.range 5).foldl (cK S W d) ([],S)).1 J):=by
  refine aF (by kernel_rfl!) (az:=aJ l5 [(("sizes":Str),wv S),(("ways":Str),wv W),(("draw":Str),.int d),(("left":Str),.loc σ.length)]) (σ':=σ++[eE S]) (by kernel_rfl!) ?_
  refine aF (by kernel_rfl!) (az:=dF S W d σ.length []) (σ':=aR σ S [] [] []) ?_ ?_
  ·have h0:aZ (CC (k+3)) 98 (aJ l5 [(("sizes":Str),wv S),(("ways":Str),wv W),(("draw":Str),.int d),(("left":Str),.loc σ.length)]) (sN (l5.body.drop 1) 0) (σ++[eE S]) =
    some (.next,aJ l5 ([(("sizes":Str),wv S),(("ways":Str),wv W),(("draw":Str),.int d),(("left":Str),.loc σ.length),(("order":Str),.loc (σ++[eE S]).length),(("picked":Str),.loc ((σ++[eE S])++[bY.list []]).length)]),((σ++[eE S])++[bY.list []])++[bY.list []]):=by
    kernel_rfl!
   have e1:(σ++[eE S]).length=σ.length+1:=by simp
   have e2:((σ++[eE S])++[bY.list []]).length=σ.length+2:=by simp
   have e3:((σ++[eE S])++[bY.list []])++[bY.list []]=aR σ S [] [] []:=by simp [aR]
   rw [e1,e2,e3] at h0;exact h0
  refine aF (by kernel_rfl!) hl1 ?_
  refine aF (by kernel_rfl!) hif ?_
  refine aF (by kernel_rfl!) hl2 ?_
  exact gD (by kernel_rfl!) (gF (by kernel_rfl!) (by kernel_rfl!))
 rw [gC (f:=l5) (bs:=[(("sizes":Str),wv S),(("ways":Str),wv W),(("draw":Str),.int d)]) (by kernel_rfl!) (by kernel_rfl!) (by kernel_rfl!) hrun,MD hσ]
section
variable{α β:Type}{n m r:Nat}
noncomputable def Bq:Nat→(Nat→Prop)→Prop
 | 0,_=>True
 | n+1,P=>Bq n P∧P n
theorem Br{P:Nat→Prop}:∀n,Bq n P→∀i<n,P i:=by
 intro n
 induction n with
 | zero=>intro _ i h;exact absurd h (not_lt_zero _)
 | succ n rc=>
  intro h i hi
  by_cases e:i=n
  ·subst e;exact h.2
  ·exact rc h.1 i (by lia)
theorem Dn{σ:aa}{v:V}(h:∀n s,j9 n s v=v):cD σ.length σ v=(v,σ):=by
 unfold cD;rw [h,take_length]
 split<;>rfl
noncomputable def nP:b9:=fnOf "_law_marks" 157 156
noncomputable def RU:List Stmt:=fnBody "_law_marks"
noncomputable def AX:List V:=(List.range 32).map fun i=>.str (word i)
theorem RV(k:Nat)(σ:aa):∀base<28,ak (CC (k+1)) 96 (aJ nP [(("base":Str),nat base),(("marks":Str),.lst AX)]) (br (sN ((RU.drop 1).drop 1) 0)) σ=some (fS base,σ):=by
 refine Br 28 ?_
 repeat' apply And.intro
 all_goals first|trivial|kernel_rfl
theorem RE(k:Nat){base:Nat}(hb:base<28)(σ:aa):(CC (k+2)).call (.base 157) [nat base] none σ=some (fS base,σ):=by
 have hx:aU (CC (k+1)) 100 (aJ nP [(("base":Str),nat base)]) nP.body σ=some (.ret (fS base),aJ nP [(("base":Str),nat base),(("marks":Str),.lst AX)],σ):=by
  refine aF (by kernel_rfl!) (az:=aJ nP [(("base":Str),nat base),(("marks":Str),.lst ((List.range 8).map fun i=>.str (word i)))]) (σ':=σ) (by kernel_rfl!) ?_
  refine aF (by kernel_rfl!) (az:=aJ nP [(("base":Str),nat base),(("marks":Str),.lst AX)]) (σ':=σ) (by kernel_rfl!) ?_
  exact gD (by kernel_rfl!) (gF (by kernel_rfl!) (RV k σ base hb))
 rw [gC (f:=nP) (bs:=[(("base":Str),nat base)]) (by kernel_rfl!) (by kernel_rfl!) (by kernel_rfl!) hx,Dn (fun Z Z=>rfl)]
noncomputable def iE(i:Nat):Str:=Txt.mul (ofString " ") (fmod (i:Int) 3)
noncomputable def iK(st:Nat):Str:=⟨#[97+st]⟩
noncomputable def jw(st i:Nat):V:=.tup [.str (iE i),.str (iK st)]
noncomputable def bH(st a b:Nat):List V:=(List.range (b - a)).map fun i=>jw st (a+i)
noncomputable def vD:b9:=fnOf "_law_pieces" 196 195
noncomputable def vF(st a b:Nat):ao:=aJ vD [(("street":Str),nat st),(("first":Str),nat a),(("behind":Str),nat b)]
noncomputable def gV(g:α→β)(l:List α):List β:=l.foldr (fun a r=>g a::r) []
theorem RA(g:α→β)(l:List α):gV g l=l.map g:=by
 induction l with
 | nil=>rfl
 | cons a l ih=>exact congrArg (g a::·) ih
theorem jA{f g:Nat→α}(h:(List.range n).map f=gV g (List.range n))(j:Nat)(hj:j<n):f j=g j:=
 List.map_inj_left.mp (h.trans (RA g _)) j (mem_range.mpr hj)
theorem VM{f g:Nat→Nat→α}(h:(List.range m).map (fun a=>(List.range (n+1)).map (f a))=gV (fun a=>gV (g a) (List.range (n+1))) (List.range m)):∀a<m,∀b≤n,f a b=g a b:=
 fun a ha b hb=>jA (jA h a ha) b (lt_succ_of_le hb)
theorem VN{f g:Nat→Nat→Nat→α}(h:(List.range m).map (fun a=>(List.range (n+1)).map fun b=>(List.range (r+1)).map (f a b))=gV (fun a=>gV (fun b=>gV (g a b) (List.range (r+1))) (List.range (n+1))) (List.range m)) :
 ∀a<m,∀b≤n,∀c≤r,f a b c=g a b c:=fun a ha b hb c hc=>jA (jA (jA h a ha) b (lt_succ_of_le hb)) c (lt_succ_of_le hc)
theorem VO{f g:Nat→Nat→Nat→α}(h:(List.range m).map (fun a=>(List.range (n+1)).map fun b=>(List.range r).map (f a b))=gV (fun a=>gV (fun b=>gV (g a b) (List.range r)) (List.range (n+1))) (List.range m)) :
 ∀a<m,∀b≤n,∀c<r,f a b c=g a b c:=fun a ha b hb c hc=>jA (jA (jA h a ha) b (lt_succ_of_le hb)) c hc
theorem Hy{f g:Nat→Nat→Nat→α}(h:(List.range m).map (fun a=>(List.range (n+1)).map fun b=>(List.range (b+1)).map (f a b))=gV (fun a=>gV (fun b=>gV (g a b) (List.range (b+1))) (List.range (n+1))) (List.range m)) :
 ∀a<m,∀b≤n,∀c≤r,c≤b→f a b c=g a b c:=fun a ha b hb c Z hcb=>jA (jA (jA h a ha) b (lt_succ_of_le hb)) c (lt_succ_of_le hcb)
theorem TA(k:Nat)(σ:aa):∀st<5,∀a≤5,∀b≤5,aU (CC (k+1)) 100 (vF st a b) vD.body σ=some (.ret (.lst (bH st a b)),vF st a b,σ):=by
 refine VN (f:=fun st a b=>aU (CC (k+1)) 100 (vF st a b) vD.body σ) (g:=fun st a b=>some (.ret (.lst (bH st a b)),vF st a b,σ)) ?_
 kernel_rfl
theorem z7(k:Nat)(σ:aa){st a b:Nat}(hs:st<5)(ha:a≤5)(hb:b≤5):(CC (k+2)).call (.base 196) [nat st,nat a,nat b] none σ=some (.lst (bH st a b),σ):=by
 rw [gC (f:=vD) (bs:=[(("street":Str),nat st),(("first":Str),nat a),(("behind":Str),nat b)]) (by kernel_rfl!) (by kernel_rfl!) (by kernel_rfl!) (TA k σ st hs a ha b hb),Dn (fun Z Z=>rfl)]
theorem z8(st a b:Nat):V.bD (bH st a b)=true:=by
 rw [eX];intro v hv;refine aj (mem_map.mp hv) ?_;rintro i _ rfl;rfl
theorem Gi(st a b:Nat):(bH st a b).length=b - a:=by simp [bH]
end
noncomputable def aL(hd:Nat)(F:Nat→List V):aa:=[.acc (hd:Int) (F 0),.acc (hd:Int) (F 1),.acc (hd:Int) (F 2),.acc (hd:Int) (F 3),.acc (hd:Int) (F 4)]
noncomputable def upd{α:Type}(F:Nat→α)(st:Nat)(x:α)(i:Nat):α:=if i=st then x else F i
theorem AP{α:Type}(F:Nat→α)(st:Nat):upd F st (F st)=F:=by
 funext i;unfold upd;split
 ·rename_i h;rw [h]
 ·rfl
noncomputable def gY:V:=.lst [.loc 0,.loc 1,.loc 2,.loc 3,.loc 4]
noncomputable def qZ:b9:=fnOf "_law_filled" 201 200
noncomputable def Dm:List Stmt:=fnBody "_law_filled"
noncomputable def uf:Stmt:=sN (Dm.drop 1) 0
noncomputable def x6:Stmt:=sN (aW uf) 0
noncomputable def gz(S:Nat→Nat)(hd:Nat)(x:List (Str×V)):ao:=aJ qZ ([(("sizes":Str),wv S),(("head":Str),nat hd),(("piles":Str),gY)]++x)
noncomputable def ss(st:Nat)(z:V):List (Str×V):=kv "street" (nat st)++kv "size" z
noncomputable def bp(a b:V):List (Str×V):=kv "blanks" a++kv "part" b
noncomputable def rS(x:List (Str×V)):Prop:=x=[]∨∃a b,x=bp a b
theorem MA(k:Nat)(S:Nat→Nat)(hd:Nat)(F:Nat→List V)(a b:Str)(l:List V)(hl:l.length≤10)(z:V):∀st<5,aU (CC (k+1)) 95 (gz S hd (ss st z++bp (.str a) (.str b))) (aW x6) (aL hd (upd F st l))=some (.next,gz S hd (ss st z++bp (.str a) (.str b)),aL hd (upd F st (l++[.tup [.str a,.str b]]))):=by
 have hc:l.length<64:=by lia
 have key:∀st<5,(CC (k+1)).call (.base 45) [.loc st,.str a,.str b] none (aL hd (upd F st l))=if l.length<64 then some (.none,aL hd (upd F st (l++[.tup [.str a,.str b]]))) else none:=by
  refine b8 ?_ ?_ ?_ ?_ ?_<;>kernel_rfl!
 intro st hst;have hk:=key st hst;rw [if_pos hc] at hk;refine aF (by kernel_rfl!) (n7 (by kernel_rfl!) (jX (by kernel_rfl!) (ov:=.loc st) (σ':=aL hd (upd F st l)) ?_ (f:=.base 45) ?_ (vs:=[.str a,.str b]) (bA:=aL hd (upd F st l)) (by kernel_rfl!) hk)) (bC (by kernel_rfl!))
 ·clear hk;revert st;refine b8 ?_ ?_ ?_ ?_ ?_<;>kernel_rfl!
 ·clear hk;revert st;refine b8 ?_ ?_ ?_ ?_ ?_<;>kernel_rfl!
theorem Gj(st n:Nat){done rest:List Nat}{i:Nat}(h:List.range n=done++i::rest):i=done.length:=by
 have h1:(List.range n)[done.length]?=some i:=by rw [h];simp
 rw [List.getElem?_range (by have:=congrArg length h;simp at this;lia)] at h1
 simpa using h1.symm
theorem My(k:Nat)(S:Nat→Nat)(hd:Nat)(F:Nat→List V)(st:Nat)(hst:st<5)(s:Nat)(hs:s≤5)(x:List (Str×V))(hx:rS x):∃y,rS y∧aU (CC (k+2)) 97 (gz S hd (ss st (nat s)++x)) (aW uf) (aL hd (upd F st []))=some (.next,gz S hd (ss st (nat s)++y),aL hd (upd F st (bH st 0 s))):=by
 have hi:dD (ak (CC (k+2)) 95) (CC (k+2)) (gz S hd (ss st (nat s)++x)) (br x6) (aL hd (upd F st []))=some ((List.range s).map fun i=>jw st i,aL hd (upd F st [])):=by
  have e:(List.range s).map (fun i=>jw st i)=bH st 0 s:=by unfold bH;simp
  rw [e];refine g8 (by kernel_rfl!) (cN (by kernel_rfl!) (fv:=.base 196) (vs:=[nat st,nat 0,nat s]) (σ':=aL hd (upd F st [])) (by kernel_rfl!) (by kernel_rfl!) (z7 k _ hst (by decide) hs)) (by rw [Gi];lia) (z8 _ _ _)
 obtain⟨cG,σ2,⟨rfl,y,hy,rfl⟩,h⟩:=iP (C:=CC (k+2)) (n:=94) (st:=x6) (me:=gz S hd (ss st (nat s)++x)) (σ:=aL hd (upd F st [])) (σ':=aL hd (upd F st [])) (g:=fun i=>jw st i) (L:=List.range s)
  (fun done me s'=>s'=aL hd (upd F st (done.map fun i=>jw st i))∧∃y,rS y∧me=gz S hd (ss st (nat s)++y))
  (by kernel_rfl!) (by kernel_rfl!) hi (by kernel_rfl!) ⟨rfl,x,hx,rfl⟩
  (fun done i rest me s' hL hI=>by
   obtain⟨rfl,y,hy,rfl⟩:=hI;have hdl:done.length≤5:=by
    have:=congrArg length hL;simp at this;lia
   have hp:=MA (k+1) S hd F (iE i) (iK st) (done.map fun i=>jw st i) (by rw [length_map];lia) (nat s) st hst
   refine⟨gz S hd (ss st (nat s)++bp (.str (iE i)) (.str (iK st))),_,_,?_,hp,?_,_,.inr ⟨_,_,rfl⟩,rfl⟩
   ·rcases hy with rfl|⟨a,b,rfl⟩<;>kernel_rfl!
   ·rw [map_append];rfl)
 refine⟨y,hy,aF (by kernel_rfl!) ?_ (bC (by kernel_rfl!))⟩
 have e:(List.range s).map (fun i=>jw st i)=bH st 0 s:=by unfold bH;simp
 rw [e] at h;exact h
noncomputable def aV(S:Nat→Nat)(i:Nat):List V:=bH i 0 (S i)
theorem Mz(k:Nat)(S:Nat→Nat):∀hd<4,aZ (CC (k+1)) 99 (aJ qZ [(("sizes":Str),wv S),(("head":Str),nat hd)]) (sN Dm 0) []=some (.next,gz S hd [],aL hd fun Z=>[]):=by
 refine gT (gT (gT (gT (fun Z h=>absurd h (not_lt_zero _)) ?_) ?_) ?_) ?_<;>kernel_rfl!
theorem oK{hd:Nat}{F G:Nat→List V}(h:∀i<5,F i=G i):aL hd F=aL hd G:=by
 unfold aL;rw [h 0 (by decide),h 1 (by decide),h 2 (by decide),h 3 (by decide),h 4 (by decide)]
theorem Im{hd:Nat}{F:Nat→List V}(h:∀i<5,V.fG 5 (F i)=true):dU (aL hd F):=by
 unfold dU aL;simp [bY.under,h]
theorem TF(n st a b:Nat):V.fG n (bH st a b)=true:=by
 unfold bH;generalize List.range (b - a)=l
 induction l with
 | nil=>rfl
 | cons i r ih=>show (V.under n (jw st (a+i))&&V.fG n (r.map fun i=>jw st (a+i)))=true;rw [ih];rfl
theorem MB(k:Nat)(S:Nat→Nat)(hS:∀i<5,S i≤5){hd:Nat}(hh:hd<4):(CC (k+3)).call (.base 201) [wv S,nat hd] none []=some (gY,aL hd (aV S)):=by
 obtain⟨cG,σ2,⟨rfl,x,hx,rfl⟩,h⟩:=iP (C:=CC (k+2)) (n:=96) (st:=uf) (me:=gz S hd []) (σ:=aL hd fun Z=>[]) (σ':=aL hd fun Z=>[]) (g:=fun i=>.tup [nat i,nat (S i)]) (L:=List.range 5)
  (fun done me s=>s=aL hd (fun i=>if i<done.length then aV S i else [])∧∃x,(x=[]∨∃i z y,rS y∧x=ss i z++y)∧me=gz S hd x)
  (by kernel_rfl!) (by kernel_rfl!) (by kernel_rfl!) (by kernel_rfl!) ⟨rfl,[],.inl rfl,rfl⟩
  (fun done i rest me s' hL hI=>by
   obtain⟨rfl,x,hx,rfl⟩:=hI;have hi:i<5:=mem_range.mp (by rw [hL];simp)
   have he:=Gj 0 5 hL;obtain⟨y,hy,ha⟩:∃y,rS y∧cM (gz S hd x) (bR uf) (.tup [nat i,nat (S i)])=some (gz S hd (ss i (nat (S i))++y)):=by
    rcases hx with rfl|⟨j,z,y,hy,rfl⟩
    ·exact⟨[],.inl rfl,by kernel_rfl!⟩
    ·exact⟨y,hy,by rcases hy with rfl|⟨a,b,rfl⟩<;>kernel_rfl!⟩
   refine aj (My k S hd (fun i=>if i<done.length then aV S i else []) i hi (S i) (hS i hi) y hy) ?_;intro y' hy' hb
   have e1:aL hd (upd (fun i=>if i<done.length then aV S i else []) i [])=aL hd (fun i=>if i<done.length then aV S i else []):=by
    refine oK fun j Z=>?_;unfold upd
    split
    ·rw [if_neg (by lia)]
    ·rfl
   have e2:aL hd (upd (fun i=>if i<done.length then aV S i else []) i (bH i 0 (S i)))=aL hd (fun j=>if j<(done++[i]).length then aV S j else []):=by
    refine oK fun j Z=>?_;unfold upd;rw [List.length_append,List.length_singleton]
    split
    ·rename_i e;subst e;rw [if_pos (by lia)];rfl
    ·by_cases hc:j<done.length
     ·show (if j<done.length then aV S j else [])=_
      rw [if_pos hc,if_pos (by lia)]
     ·show (if j<done.length then aV S j else [])=_
      rw [if_neg hc,if_neg (by lia)]
   rw [e1,e2] at hb;exact⟨_,_,_,ha,hb,rfl,_,.inr ⟨_,_,_,hy',rfl⟩,rfl⟩)
 have e3:aL hd (fun i=>if i<(List.range 5).length then aV S i else [])=aL hd (aV S):=by
  refine oK fun j hj=>?_;rw [if_pos (by simpa using hj)]
 rw [e3] at h;have hx':aU (CC (k+2)) 100 (aJ qZ [(("sizes":Str),wv S),(("head":Str),nat hd)]) qZ.body []=some (.ret gY,gz S hd x,aL hd (aV S)):=by
  refine aF (by kernel_rfl!) (Mz (k+1) S hd hh) ?_
  refine aF (by kernel_rfl!) h ?_
  exact gD (by kernel_rfl!) (gF (by kernel_rfl!) (by kernel_rfl!))
 rw [gC (f:=qZ) (bs:=[(("sizes":Str),wv S),(("head":Str),nat hd)]) (by kernel_rfl!) (by kernel_rfl!) (by kernel_rfl!) hx']
 rfl
noncomputable def vW:b9:=fnOf "_law_taken" 206 205
noncomputable def VE:List Stmt:=fnBody "_law_taken"
noncomputable def oq:Stmt:=sN VE 0
noncomputable abbrev Ho:Stmt:=sN (aW oq) 0
noncomputable abbrev AE:Stmt:=sN ((aW oq).drop 1) 0
noncomputable abbrev AG:Stmt:=sN (((aW oq).drop 1).drop 1) 0
noncomputable abbrev Hp:Stmt:=sN ((((aW oq).drop 1).drop 1).drop 1) 0
noncomputable def eK(S T:Nat→Nat)(hd:Nat)(x:List (Str×V)):ao:=aJ vW ([(("piles":Str),gY),(("sizes":Str),wv S),(("left":Str),wv T),(("head":Str),nat hd)]++x)
noncomputable def sp(st:Nat):List (Str×V):=kv "street" (nat st)++kv "pile" (.loc st)
noncomputable def sR(st l:Nat):Str:=Txt.join (ofString "") ((List.range l).map fun i=>iE i++iK st)
theorem Fg{P:Nat→Prop}(h0:P 0)(h1:P 1)(h2:P 2)(h3:P 3):∀j<4,P j:=gT (gT (gT (gT (fun Z h=>absurd h (not_lt_zero _)) h0) h1) h2) h3
section
variable(k:Nat)(S T:Nat→Nat)(hd:Nat)(F:Nat→List V)(z:List (Str×V))
theorem Hq(σ:aa):∀st<5,T st≤5→S st≤5→ak (CC (k+2)) 96 (eK S T hd (sp st++z)) (br Ho) σ=some (.lst (bH st (T st) (S st)),σ):=by
 intro st hst h1 h2;refine cN (by kernel_rfl!) (fv:=.base 196) (vs:=[nat st,nat (T st),nat (S st)]) (σ':=σ) (by kernel_rfl!) ?_ (z7 k σ hst h1 h2)
 clear h1 h2;revert st;refine b8 ?_ ?_ ?_ ?_ ?_<;>kernel_rfl!
theorem VF:∀st<5,∀s≤5,∀l≤5,l≤s→ak (CC (k+2)) 95 (eK S (upd T st l) hd (sp st++(kv "due" (.lst (bH st l s))++z))) (br AE) (aL hd (upd F st (bH st 0 s)))=some (.lst (bH st l s),aL hd (upd F st (bH st 0 l))):=by
 refine Hy ?_
 kernel_rfl
theorem VI(σ:aa):∀st<5,∀l≤5,(CC (k+1)).call (.bi "str.join") [.str (ofString ""),.lst ((List.range l).map fun i=>.str (iE i++iK st))] none σ=some (.str (sR st l),σ):=by
 refine VM ?_
 kernel_rfl
theorem VJ:∀i<5,∀st:Nat,(iE i).length+(iK st).length≤10:=by
 refine b8 ?_ ?_ ?_ ?_ ?_<;>intro st<;>show _+1≤10<;>decide+kernel
theorem Hr(σ:aa)(st:Nat)(hst:st<5)(ht:T st≤5)(d t:V):ak (CC (k+2)) 94 (eK S T hd (sp st++(kv "due" d++(kv "taken" t++z)))) (br AG) σ=some (.str (sR st (T st)),σ):=by
 refine jX (by kernel_rfl!) (ov:=.str (ofString "")) (σ':=σ) (by kernel_rfl!) (f:=.bi "str.join") (by kernel_rfl!) (vs:=[.lst ((List.range (T st)).map fun i=>.str (iE i++iK st))]) (bA:=σ) (eV (σ':=σ) (by kernel_rfl!) ?_ (i9 (by kernel_rfl!))) (VI (k+1) σ st hst _ ht)
 refine Ai (l:=List.range (T st)) (g:=fun i=>jw st i) (σ':=σ) (fun i=>.str (iE i++iK st)) (fun i=>((eW (dJ (eN (bh (br AG)) 0)) (eK S T hd (sp st++(kv "due" d++(kv "taken" t++z))))).set "blanks" (.str (iE i))).set "part" (.str (iK st))) ?_ ?_ ?_ ?_ ?_ ?_ ?_ (fun Z Z=>rfl) ?_
 ·kernel_rfl!
 ·kernel_rfl!
 ·have e:(List.range (T st)).map (fun i=>jw st i)=bH st 0 (T st):=by unfold bH;simp
  rw [e];refine g8 (by kernel_rfl!) (cN (by kernel_rfl!) (fv:=.base 196) (vs:=[nat st,nat 0,nat (T st)]) (σ':=σ) (by kernel_rfl!) ?_ (z7 k _ hst (by decide) ht)) (by rw [Gi];lia) (z8 _ _ _)
  clear ht e;revert st;refine b8 ?_ ?_ ?_ ?_ ?_<;>kernel_rfl!
 ·intro a _;kernel_rfl!
 ·intro a _ b _;kernel_rfl!
 ·kernel_rfl!
 ·intro a ha;have NI:a<5:=by have:=mem_range.mp ha;lia
  have hc:(iE a).length+(iK st).length≤sizeLine:=le_trans (VJ a NI st) (by decide)
  refine fZ (by kernel_rfl!) (a:=.str (iE a)) (b:=.str (iK st)) (σ':=σ) (by kernel_rfl!) (by kernel_rfl!) ?_
  show Option.or (if (iE a).length+(iK st).length≤sizeLine then _ else _) _=_
  rw [if_pos hc];rfl
 ·rw [length_range,show sizeLine=2^24 from rfl];lia
theorem VG(σ:aa)(x:V):∀st<5,∀s≤5,∀l≤5,l≤s→aX (CC (k+2)) 92 (eK S T hd (sp st++(kv "due" (.lst (bH st l s))++(kv "taken" (.lst (bH st l s))++(kv "text" x++z))))) (eN (bh (bR Hp)) 0) σ=some (false,σ):=by
 refine Hy ?_
 kernel_rfl
theorem VH(d t:V):∀st<5,∀l≤5,∀hd<4,aX (CC (k+2)) 92 (eK S (upd T st l) hd (sp st++(kv "due" d++(kv "taken" t++(kv "text" (.str (sR st l))++z))))) (eN ((bh (bR Hp)).drop 1) 0) (aL hd (upd F st (bH st 0 l)))=some (false,aL hd (upd F st (bH st 0 l))):=by
 refine VO ?_
 kernel_rfl
end
theorem VK(k:Nat)(S T:Nat→Nat)(hd:Nat)(hh:hd<4)(F:Nat→List V)(st:Nat)(hst:st<5)(h1:T st≤S st)(h2:S st≤5)(hF:F st=bH st 0 (S st))(z:List (Str×V))(hz:z=[]∨∃a b c,z=kv "due" a++(kv "taken" b++kv "text" c)) :
 ∃z',(∃a b c,z'=kv "due" a++(kv "taken" b++kv "text" c))∧aU (CC (k+2)) 98 (eK S T hd (sp st++z)) (aW oq) (aL hd F)=some (.next,eK S T hd (sp st++z'),aL hd (upd F st (bH st 0 (T st)))):=by
 have hp:∀s l,V.plain (.lst (bH s l (S st)))=true:=fun s l=>z8 _ _ _;have e0:∃y,(y=[]∨∃b c,y=kv "taken" b++kv "text" c)∧aZ (CC (k+2)) 97 (eK S T hd (sp st++z)) Ho (aL hd F)=some (.next,eK S T hd (sp st++(kv "due" (.lst (bH st (T st) (S st)))++y)),aL hd F):=by
  rcases hz with rfl|⟨a,b,c,rfl⟩
  ·exact⟨[],.inl rfl,dP (by kernel_rfl!) (hp st (T st)) (Hq k S T hd _ _ st hst (by lia) h2) (by kernel_rfl!)⟩
  ·exact⟨_,.inr ⟨b,c,rfl⟩,dP (by kernel_rfl!) (hp st (T st)) (Hq k S T hd _ _ st hst (by lia) h2) (by kernel_rfl!)⟩
 refine aj e0 ?_;clear e0;intro y hy e0;have t1:ak (CC (k+2)) 95 (eK S T hd (sp st++(kv "due" (.lst (bH st (T st) (S st)))++y))) (br AE) (aL hd F)=some (.lst (bH st (T st) (S st)),aL hd (upd F st (bH st 0 (T st)))):=by
  have:=VF k S T hd F y st hst (S st) h2 (T st) (by lia) h1
  rw [AP T st,←hF,AP F st] at this;exact this
 have e1:∃y',(y'=[]∨∃c,y'=kv "text" c)∧aZ (CC (k+2)) 96 (eK S T hd (sp st++(kv "due" (.lst (bH st (T st) (S st)))++y))) AE (aL hd F)=some (.next,eK S T hd (sp st++(kv "due" (.lst (bH st (T st) (S st)))++(kv "taken" (.lst (bH st (T st) (S st)))++y'))),aL hd (upd F st (bH st 0 (T st)))):=by
  rcases hy with rfl|⟨b,c,rfl⟩
  ·exact⟨[],.inl rfl,dP (by kernel_rfl!) (hp st (T st)) t1 (by kernel_rfl!)⟩
  ·exact⟨_,.inr ⟨c,rfl⟩,dP (by kernel_rfl!) (hp st (T st)) t1 (by kernel_rfl!)⟩
 refine aj e1 ?_;clear e1;intro y' hy' e1;have e2:aZ (CC (k+2)) 95 (eK S T hd (sp st++(kv "due" (.lst (bH st (T st) (S st)))++(kv "taken" (.lst (bH st (T st) (S st)))++y')))) AG (aL hd (upd F st (bH st 0 (T st))))=some (.next,eK S T hd (sp st++(kv "due" (.lst (bH st (T st) (S st)))++(kv "taken" (.lst (bH st (T st) (S st)))++(kv "text" (.str (sR st (T st))))))),aL hd (upd F st (bH st 0 (T st)))):=by
  rcases hy' with rfl|⟨c,rfl⟩
  ·exact dP (by kernel_rfl!) rfl (Hr k S T hd _ _ st hst (by lia) _ _) (by kernel_rfl!)
  ·exact dP (by kernel_rfl!) rfl (Hr k S T hd _ _ st hst (by lia) _ _) (by kernel_rfl!)
 have Hi:=VG k S T hd [] (aL hd (upd F st (bH st 0 (T st)))) (.str (sR st (T st))) st hst (S st) h2 (T st) (by lia) h1
 have AD:=VH k S T F [] (.lst (bH st (T st) (S st))) (.lst (bH st (T st) (S st))) st hst (T st) (by lia) hd hh
 rw [AP T st] at AD;rw [append_nil] at Hi AD;refine⟨_,⟨_,_,_,rfl⟩,aF (by kernel_rfl!) e0 (aF (by kernel_rfl!) e1 (aF (by kernel_rfl!) e2 (aF (by kernel_rfl!) (cL (by kernel_rfl!) (b:=false) (g6 (by kernel_rfl!) ?_) (bC (by kernel_rfl!))) (bC (by kernel_rfl!)))))⟩
 exact mh (by kernel_rfl!) Hi (mh (by kernel_rfl!) AD (vJ (by kernel_rfl!)))
theorem VL(k:Nat)(S T:Nat→Nat)(hS:∀i<5,S i≤5)(hT:∀i<5,T i≤S i){hd:Nat}(hh:hd<4):(CC (k+3)).call (.base 206) [gY,wv S,wv T,nat hd] none (aL hd (aV S))=some (.bool true,aL hd (aV T)):=by
 obtain⟨cG,σ2,⟨rfl,x,hx,rfl⟩,h⟩:=iP (C:=CC (k+2)) (n:=97) (st:=oq) (me:=eK S T hd []) (σ:=aL hd (aV S)) (σ':=aL hd (aV S)) (g:=fun i=>.tup [nat i,.loc i]) (L:=List.range 5)
  (fun done me s=>s=aL hd (fun i=>if i<done.length then aV T i else aV S i)∧∃x,(x=[]∨∃i z,(∃a b c,z=kv "due" a++(kv "taken" b++kv "text" c))∧x=sp i++z)∧me=eK S T hd x)
  (by kernel_rfl!) (by kernel_rfl!) (by kernel_rfl!) (by kernel_rfl!) ⟨rfl,[],.inl rfl,rfl⟩
  (fun done i rest me s' hL hI=>by
   obtain⟨rfl,x,hx,rfl⟩:=hI;have hi:i<5:=mem_range.mp (by rw [hL];simp)
   have he:=Gj 0 5 hL;obtain⟨z,hz,ha⟩:∃z,(z=[]∨∃a b c,z=kv "due" a++(kv "taken" b++kv "text" c))∧cM (eK S T hd x) (bR oq) (.tup [nat i,.loc i])=some (eK S T hd (sp i++z)):=by
    rcases hx with rfl|⟨j,z,hz,rfl⟩
    ·exact⟨[],.inl rfl,by kernel_rfl!⟩
    ·exact⟨z,.inr hz,by kernel_rfl!⟩
   refine aj (VK k S T hd hh (fun i=>if i<done.length then aV T i else aV S i) i hi (hT i hi) (hS i hi) (by show (if i<done.length then aV T i else aV S i)=_;rw [if_neg (by lia)];rfl) z hz) ?_;intro z' hz' hb
   have e2:aL hd (upd (fun i=>if i<done.length then aV T i else aV S i) i (bH i 0 (T i)))=aL hd (fun j=>if j<(done++[i]).length then aV T j else aV S j):=by
    refine oK fun j Z=>?_;unfold upd;rw [List.length_append,List.length_singleton]
    split
    ·rename_i e;subst e;rw [if_pos (by lia)];rfl
    ·by_cases hc:j<done.length
     ·show (if j<done.length then aV T j else aV S j)=_
      rw [if_pos hc,if_pos (by lia)]
     ·show (if j<done.length then aV T j else aV S j)=_
      rw [if_neg hc,if_neg (by lia)]
   rw [e2] at hb;exact⟨_,_,_,ha,hb,rfl,_,.inr ⟨_,_,hz',rfl⟩,rfl⟩)
 have e3:aL hd (fun i=>if i<(List.range 5).length then aV T i else aV S i)=aL hd (aV T):=by
  refine oK fun j hj=>?_;rw [if_pos (by simpa using hj)]
 rw [e3] at h;have hx':aU (CC (k+2)) 100 (aJ vW [(("piles":Str),gY),(("sizes":Str),wv S),(("left":Str),wv T),(("head":Str),nat hd)]) vW.body (aL hd (aV S))=some (.ret (.bool true),eK S T hd x,aL hd (aV T)):=by
  refine aF (by kernel_rfl!) h ?_
  exact gD (by kernel_rfl!) (gF (by kernel_rfl!) (by kernel_rfl!))
 rw [gC (f:=vW) (bs:=[(("piles":Str),gY),(("sizes":Str),wv S),(("left":Str),wv T),(("head":Str),nat hd)]) (by kernel_rfl!) (by kernel_rfl!) (by kernel_rfl!) hx']
 congr 1;have:(aL hd (aV S)).length=(aL hd (aV T)).length:=rfl;rw [this];exact x7 _ _
section
variable{C:Calls}{n:Nat}{me az:ao}{st:Stmt}{e:Expr}{σ σ' bA σ₁:aa}{v w:V}
theorem Gy{b:Bool}(h:EK e=true)(he:ak C n me (eN (bh e) 0) σ=some (v,σ'))(ht:gr σ' v=some b):ak C (n+1) me e σ=some (.bool (!b),σ'):=by
 refine bG (Ew bF h) ?_;rintro o x p rfl h2;obtain rfl:o=.Not:=of_decide_eq_true h2;exact aK (x:=ak C n me x σ) he (cS (x:=(gr σ' v).map _) (cS ht rfl) rfl)
theorem Uj{a b c:V}(h:isBool e=true)(ho:boolOf e=.And)(hl:(bh e).length=3)(h1:ak C n me (eN (bh e) 0) σ=some (a,σ))(t1:gr σ a=some true)(h2:ak C n me (eN ((bh e).drop 1) 0) σ=some (b,σ))(t2:gr σ b=some true)
 (h3:ak C n me (eN (((bh e).drop 1).drop 1) 0) σ=some (c,σ')):ak C (n+1) me e σ=some (c,σ'):=by
 refine bG (zf bF h) ?_;rintro op es p rfl -;obtain rfl:op=.And:=ho;refine lD (QO hl) ?_;rintro x y z rfl;exact aK (x:=ak C n me x σ) h1 (aK (x:=gr σ a) t1 (aK (x:=ak C n me y σ) h2 (aK (x:=gr σ b) t2 h3)))
end
theorem mZ(a b:Nat):fmod (a:Int) (b:Int)=((a%b:Nat):Int):=by
 rw [Int.fmod_eq_emod_of_nonneg _ (natCast_nonneg b),Int.natCast_emod]
noncomputable def cv(c:Nat→Int):V:=.lst [.int (c 0),.int (c 1),.int (c 2),.int (c 3),.int (c 4),.int (c 5),.int (c 6),.int (c 7)]
noncomputable def eB(s t:V)(c:Nat→Int)(N:Nat→Nat):List (Str×V):=[(("script":Str),s),(("told":Str),t),(("cells":Str),cv c),(("numbers":Str),wv N),(("read":Str),wv N)]
noncomputable def cF(s t:V)(c:Nat→Int)(N S W:Nat→Nat)(b hd:Nat)(o:Bool)(x:List (Str×V)):ao:=aJ bU (eB s t c N++([(("sizes":Str),wv S),(("ways":Str),wv W),(("base":Str),nat b),(("head":Str),nat hd),(("marks":Str),fS b),(("piles":Str),gY),(("ours":Str),.bool o),(("good":Str),.bool true)]++x))
noncomputable def bT(N:Nat→Nat)(i:Nat):Nat:=1+N i%5
noncomputable def cU(N:Nat→Nat)(i:Nat):Nat:=(2^(N i/5%5)||| 2^((N i/5+1+N i/25%4)%5))%16
noncomputable def dI(c:Nat→Int):Nat:=(fmod (c 5) 28).toNat
noncomputable def dh(c:Nat→Int):Nat:=(fmod (fdiv (c 5) 28) 4).toNat
theorem BH(c:Nat→Int):dI c<28:=by
 have h1:=fmod_nonneg_of_pos (c 5) (b:=28) (by decide)
 have h2:=fmod_lt_of_pos (c 5) (b:=28) (by decide)
 exact (toNat_lt h1).mpr h2
theorem yz(c:Nat→Int):dh c<4:=by
 have h1:=fmod_nonneg_of_pos (fdiv (c 5) 28) (b:=4) (by decide)
 have h2:=fmod_lt_of_pos (fdiv (c 5) 28) (b:=4) (by decide)
 exact (toNat_lt h1).mpr h2
theorem JF(c:Nat→Int):((dI c:Nat):Int)=fmod (c 5) 28:=by
 have h1:=fmod_nonneg_of_pos (c 5) (b:=28) (by decide)
 exact toNat_of_nonneg h1
theorem NW(c:Nat→Int):((dh c:Nat):Int)=fmod (fdiv (c 5) 28) 4:=by
 have h1:=fmod_nonneg_of_pos (fdiv (c 5) 28) (b:=4) (by decide)
 exact toNat_of_nonneg h1
noncomputable def lL:Stmt:=sN ((((((((fQ.drop 1).drop 1).drop 1).drop 1).drop 1).drop 1).drop 1).drop 1) 0
section
variable(k:Nat)(s t:V)(c:Nat→Int)(N:Nat→Nat)
theorem Rc(σ:aa):ak (CC (k+1)) 97 (aJ bU (eB s t c N)) (br (sN (fQ.drop 1) 0)) σ=some (wv (bT N),σ):=by
 refine kR (l:=[N 0,N 1,N 2,N 3,N 4]) (g:=nat) (σ':=σ) (fun n=>nat (1+n%5)) ?_ ?_ (fun Z Z=>rfl) ?_ (fun Z Z=>rfl) (show 5≤sizeLine by decide)
 ·kernel_rfl!
 ·kernel_rfl!
 ·intro n _;show _=some (V.int ((1+n%5:Nat):Int),σ);have:((1+n%5:Nat):Int)=1+fmod (n:Int) 5:=by
   have:=mZ n 5;rw [show ((5:Nat):Int)=5 from rfl] at this;rw [this];lia
  rw [this];kernel_rfl!
theorem Rg(σ:aa):ak (CC (k+1)) 96 (aJ bU (eB s t c N++[(("sizes":Str),wv (bT N))])) (br (sN ((fQ.drop 1).drop 1) 0)) σ=some (wv (cU N),σ):=by
 refine kR (l:=[N 0,N 1,N 2,N 3,N 4]) (g:=nat) (σ':=σ) (fun n=>nat ((2^(n/5%5)||| 2^((n/5+1+n/25%4)%5))%16)) ?_ ?_ (fun Z Z=>rfl) ?_ (fun Z Z=>rfl) (show 5≤sizeLine by decide)
 ·kernel_rfl!
 ·kernel_rfl!
 ·intro n _;have e5:fdiv (n:Int) 5=((n/5:Nat):Int):=pB n 5;have Ly:fdiv (n:Int) 25=((n/25:Nat):Int):=pB n 25;refine fZ (by kernel_rfl!) (a:=nat (2^(n/5%5)||| 2^((n/5+1+n/25%4)%5))) (b:=nat 16) (σ':=σ) (fZ (by kernel_rfl!) (a:=nat (2^(n/5%5))) (b:=nat (2^((n/5+1+n/25%4)%5))) (σ':=σ)
   (fZ (by kernel_rfl!) (a:=nat 1) (b:=nat (n/5%5)) (σ':=σ) (by kernel_rfl!) ?_ (vP σ _ (le_of_lt (lt_of_lt_of_le (mod_lt _ (by decide)) (by decide))))) (fZ (by kernel_rfl!) (a:=nat 1) (b:=nat ((n/5+1+n/25%4)%5)) (σ':=σ) (by kernel_rfl!) ?_ (vP σ _ (le_of_lt (lt_of_lt_of_le (mod_lt _ (by decide)) (by decide))))) ?_) (by kernel_rfl!) ?_
  ·have:((n/5%5:Nat):Int)=fmod (fdiv (n:Int) 5) 5:=by rw [e5];exact (mZ (n/5) 5).symm
   show _=some (V.int ((n/5%5:Nat):Int),σ);rw [this];kernel_rfl!
  ·have:(((n/5+1+n/25%4)%5:Nat):Int)=fmod (fdiv (n:Int) 5+1+fmod (fdiv (n:Int) 25) 4) 5:=by
    have h4:fmod ((n/25:Nat):Int) 4=((n/25%4:Nat):Int):=mZ (n/25) 4;rw [e5,Ly,h4];exact (mZ (n/5+1+n/25%4) 5).symm
   show _=some (V.int (((n/5+1+n/25%4)%5:Nat):Int),σ);rw [this];kernel_rfl!
  ·show some (V.int (Builtin.bitOr _ _))=_;rw [zY]
  ·refine (FN σ _ _ (by decide)).trans ?_
   rw [mZ]
end
noncomputable def tot(S:Nat→Nat):Nat:=((List.range 5).map S).sum
noncomputable def gg(c:Nat→Int)(t:Nat):Int:=fdiv (c (5+t%3)) (1+(t/3:Nat))
noncomputable def lI:Stmt:=sN (aW lL) 0
noncomputable abbrev E0:Stmt:=sN (aW lI) 0
noncomputable abbrev E1:Stmt:=sN ((aW lI).drop 1) 0
noncomputable abbrev E2:Stmt:=sN (((aW lI).drop 1).drop 1) 0
noncomputable abbrev zz:Stmt:=sN ((((aW lI).drop 1).drop 1).drop 1) 0
noncomputable abbrev QC:Stmt:=sN (((((aW lI).drop 1).drop 1).drop 1).drop 1) 0
theorem sum_bound:∀(l:List Int),(∀x∈l,0≤x∧x≤1000000)→0≤l.sum∧l.sum≤1000000*l.length:=by
 intro l
 induction l with
 | nil=>intro _;simp
 | cons a r rc=>intro h;have h1:=h a mem_cons_self;have h2:=rc fun x hx=>h x (mem_cons_of_mem _ hx);rw [sum_cons,length_cons,Int.natCast_add,Int.mul_add,Int.add_comm (1000000*_)];exact⟨Int.add_nonneg h1.1 h2.1,Int.add_le_add h1.2 h2.2⟩
theorem Dq(l:List Int)(h:∀x∈l,0≤x∧x≤1000000)(hl:l.length≤1000):jc l=true:=by
 unfold jc;rw [all_eq_true];intro j hj;have hj:=mem_range.mp hj;have h1:=h (l.getD j 0) (by rw [getD_eq_getElem?_getD,getElem?_eq_getElem hj];exact List.getElem_mem _)
 have h2:=sum_bound (l.take (j+1)) fun x hx=>h x (List.mem_of_mem_take hx);have h3:(l.take (j+1)).length≤1000:=by rw [length_take];lia
 simp only [and_eq_true,decide_eq_true_eq];refine⟨⟨by lia,by lia⟩,⟨by lia,by lia⟩⟩
theorem MH(S:Nat→Nat)(h:∀i<5,S i≤5):jc ((List.range 5).map fun i=>((S i:Nat):Int))=true:=
 Dq _ (fun x hx=>by
  refine aj (mem_map.mp hx) ?_;rintro i hi rfl;exact⟨natCast_nonneg _,ofNat_le.mpr (le_trans (h i (mem_range.mp hi)) (by decide))⟩) (by rw [length_map,length_range];decide)
section
variable(k:Nat)(s t:V)(c:Nat→Int)(N S W:Nat→Nat)(b hd:Nat)(x:List (Str×V))
theorem Ft(o:Bool)(σ:aa):∀u<26,ak (CC (k+1)) 86 (cF s t c N S W b hd o (kv "turn" (nat u)++x)) (br E0) σ=some (.int (gg c u),σ):=by
 refine Br 26 ?_
 repeat' apply And.intro
 all_goals first|trivial|kernel_rfl
theorem Rf(o:Bool)(hS:∀i<5,S i≤5)(σ:aa):aX (CC (k+1)) 88 (cF s t c N S W b hd o x) (bR lI) σ=some (o||decide (0<tot S),σ):=by
 have h2:aX (CC (k+1)) 87 (cF s t c N S W b hd o x) (eN ((bh (bR lI)).drop 1) 0) σ=some (o||decide (0<tot S),σ):=by
  refine g6 (by kernel_rfl!) ?_
  cases o with
  | true=>exact qp (by kernel_rfl!) (by kernel_rfl!)
  | false=>
   refine mh (σ':=σ) (by kernel_rfl!) (by kernel_rfl!) ?_
   have hs:aX (CC (k+1)) 86 (cF s t c N S W b hd false x) (eN ((bh (eN ((bh (bR lI)).drop 1) 0)).drop 1) 0) σ=some (decide (0<tot S),σ):=by
    refine fF (by kernel_rfl!) (a:=nat (tot S)) (b:=nat 0) (σ':=σ) (cN (by kernel_rfl!) (fv:=.bi "sum") (vs:=[.lst ((List.range 5).map fun i=>nat (S i))]) (σ':=σ) (by kernel_rfl!) (by kernel_rfl!) (G8 k S (List.range 5) (MH S hS) σ)) (by kernel_rfl!) ?_
    exact congrArg some (uy (tot S) 0)
   rw [Bool.false_or];cases hc:decide (0<tot S) with
   | true=>exact qp (by kernel_rfl!) (hs.trans (by rw [hc]))
   | false=>exact mh (by kernel_rfl!) (hs.trans (by rw [hc])) (vJ (by kernel_rfl!))
 refine g6 (by kernel_rfl!) (gZ (σ':=σ) (by kernel_rfl!) (by kernel_rfl!) ?_)
 cases hc:(o||decide (0<tot S)) with
 | true=>exact gZ (by kernel_rfl!) (h2.trans (by rw [hc])) (Ae (by kernel_rfl!))
 | false=>exact l8 (by kernel_rfl!) (h2.trans (by rw [hc]))
noncomputable def nQ(o:Bool)(S W:Nat→Nat)(d:Int):Nat→Nat:=if o then iY S W else l6 S W d
theorem Q9(o:Bool)(d:Int)(u:V)(hb:b<28){σ:aa}(hσ:dU σ):ak (CC (k+5)) 85 (cF s t c N S W b hd o (kv "turn" u++(kv "draw" (.int d)++x))) (br E1) σ=some (wv (nQ o S W d),σ):=by
 cases o with
 | true=>
  refine l9 (by kernel_rfl!) (b:=true) (σ':=σ) (by kernel_rfl!) ?_
  exact cN (by kernel_rfl!) (fv:=.base 184) (vs:=[wv S,wv W,nat b,fS b]) (σ':=σ) (by kernel_rfl!) (by kernel_rfl!) (IJ k S W hb hσ)
 | false=>
  refine l9 (by kernel_rfl!) (b:=false) (σ':=σ) (by kernel_rfl!) ?_
  exact cN (by kernel_rfl!) (fv:=.base 191) (vs:=[wv S,wv W,.int d]) (σ':=σ) (by kernel_rfl!) (by kernel_rfl!) (Th (k+1) S W d hσ)
theorem Fv(o:Bool)(T:Nat→Nat)(u d:V)(σ:aa):ak (CC (k+1)) 84 (cF s t c N S W b hd o (kv "turn" u++(kv "draw" d++(kv "left" (wv T)++x)))) (br E2) σ=some (sub (hs (c8 S T)),σ):=by
 refine n6 (l:=List.range 5) (g:=nat) (σ':=σ) (c8 S T) nat ?_ (by kernel_rfl!) (fun Z Z=>rfl) ?_ ?_ (fun Z Z Z=>rfl) (by decide)
 ·kernel_rfl!
 ·intro h hh;replace hh:=mem_range.mp hh;refine qt (by kernel_rfl!) (fF (by kernel_rfl!) (a:=nat (T h)) (b:=nat (S h)) (σ':=σ) ?_ ?_ ?_)
  ·revert h;refine b8 ?_ ?_ ?_ ?_ ?_<;>kernel_rfl!
  ·revert h;refine b8 ?_ ?_ ?_ ?_ ?_<;>kernel_rfl!
  ·exact congrArg some (Q5 (T h) (S h))
 ·intro h hh _;kernel_rfl!
theorem Q7(o:Bool)(T:Nat→Nat)(u d:V)(hh:hd<4)(hS:∀i<5,S i≤5)(hT:∀i<5,T i≤S i)(hr:c9 W (hs (c8 S T))=false)(he:cC T W=o) :
 ak (CC (k+3)) 83 (cF s t c N S W b hd o (kv "turn" u++(kv "draw" d++(kv "left" (wv T)++(kv "fewer" (sub (hs (c8 S T)))++x))))) (br zz) (aL hd (aV S))=some (.bool true,aL hd (aV T)):=by
 refine Uj (by kernel_rfl!) (by kernel_rfl!) (by kernel_rfl!) (a:=.bool true) ?_ rfl (b:=.bool true) ?_ rfl ?_
 ·have:=Gy (C:=CC (k+3)) (n:=81) (me:=cF s t c N S W b hd o (kv "turn" u++(kv "draw" d++(kv "left" (wv T)++(kv "fewer" (sub (hs (c8 S T)))++x))))) (e:=eN (bh (br zz)) 0) (σ:=aL hd (aV S)) (σ':=aL hd (aV S)) (v:=.bool (c9 W (hs (c8 S T)))) (b:=c9 W (hs (c8 S T))) (by kernel_rfl!)
   (cN (by kernel_rfl!) (fv:=.base 174) (vs:=[sub (hs (c8 S T)),wv W]) (σ':=aL hd (aV S)) (by kernel_rfl!) (by kernel_rfl!) (GL (k+1) W _ (fun j hj=>jf hj) (le_trans (jM _) (by decide)) _)) rfl
  rw [hr] at this;exact this
 ·refine Ah (by kernel_rfl!) (a:=.bool (cC T W)) (b:=.bool o) (σ':=aL hd (aV S)) (cN (by kernel_rfl!) (fv:=.base 169) (vs:=[wv T,wv W]) (σ':=aL hd (aV S)) (by kernel_rfl!) (by kernel_rfl!) (C1 (k+1) T W _)) (by kernel_rfl!) ?_
  rw [he];cases o<;>kernel_rfl!
 ·exact cN (by kernel_rfl!) (fv:=.base 206) (vs:=[gY,wv S,wv T,nat hd]) (σ':=aL hd (aV S)) (by kernel_rfl!) (by kernel_rfl!) (VL k S T hS hT hh)
end
structure Good(W:Nat→Nat):Prop where
 move:∀(S:Nat→Nat) (o:Bool) (d:Int),(∀i<5,S i≤5)→o=!cC S W→(o||decide (0<tot S))=true→
  (∀i<5,nQ o S W d i≤S i)∧c9 W (hs (c8 S (nQ o S W d)))=false∧cC (nQ o S W d) W=o∧tot (nQ o S W d)<tot S
 zero:∀S:Nat→Nat,tot S=0→cC S W=true
section
variable(k:Nat)(s t:V)(c:Nat→Int)(N W:Nat→Nat)(b hd:Nat)
theorem Ip(hd:Nat)(S:Nat→Nat):dU (aL hd (aV S)):=Im fun i Z=>TF 5 i 0 (S i)
theorem Rd(hW:Good W)(hb:b<28)(hh:hd<4)(S:Nat→Nat)(o:Bool)(u:Nat)(hu:u<26)(hS:∀i<5,S i≤5)(ho:o=!cC S W)(z:List (Str×V))(hz:z=[]∨∃d l f,z=kv "draw" d++(kv "left" l++kv "fewer" f)) :
 ∃S' o' z',(z'=[]∨∃d l f,z'=kv "draw" d++(kv "left" l++kv "fewer" f))∧(∀i<5,S' i≤5)∧o'=(!cC S' W)∧(tot S'+1≤tot S∨tot S'=0)∧
  aU (CC (k+5)) 90 (cF s t c N S W b hd o (kv "turn" (nat u)++z)) (aW lL) (aL hd (aV S))=some (.next,cF s t c N S' W b hd o' (kv "turn" (nat u)++z'),aL hd (aV S')):=by
 have ht:=Rf (k+4) s t c N S W b hd (kv "turn" (nat u)++z) o hS (aL hd (aV S));cases hl:(o||decide (0<tot S)) with
 | false=>
  rw [hl] at ht;have h0:tot S=0:=by
   rw [or_eq_false_iff] at hl;have:=hl.2;simpa using this
  exact⟨S,o,z,hz,hS,ho,.inr h0,aF (by kernel_rfl!) (cL (by kernel_rfl!) ht (bC (by kernel_rfl!))) (bC (by kernel_rfl!))⟩
 | true=>
  rw [hl] at ht;refine gQ (hW.move S o (gg c u) hS ho hl) ?_;intro hT hr he hlt;generalize yp:nQ o S W (gg c u)=T at hT hr he hlt;refine⟨T,!o,kv "draw" (.int (gg c u))++(kv "left" (wv T)++kv "fewer" (sub (hs (c8 S T)))),.inr ⟨_,_,_,rfl⟩,fun i hi=>le_trans (hT i hi) (hS i hi),by rw [he],.inl hlt,?_⟩
  have e0:∃y,(y=[]∨∃l f,y=kv "left" l++kv "fewer" f)∧aZ (CC (k+5)) 87 (cF s t c N S W b hd o (kv "turn" (nat u)++z)) E0 (aL hd (aV S))=some (.next,cF s t c N S W b hd o (kv "turn" (nat u)++(kv "draw" (.int (gg c u))++y)),aL hd (aV S)):=by
   rcases hz with rfl|⟨d,l,f,rfl⟩
   ·exact⟨[],.inl rfl,dO (by kernel_rfl!) (Ft (k+4) s t c N S W b hd _ o _ u hu) (by kernel_rfl!)⟩
   ·exact⟨_,.inr ⟨l,f,rfl⟩,dO (by kernel_rfl!) (Ft (k+4) s t c N S W b hd _ o _ u hu) (by kernel_rfl!)⟩
  refine aj e0 ?_;clear e0;intro y hy e0;have e1:∃y',(y'=[]∨∃f,y'=kv "fewer" f)∧aZ (CC (k+5)) 86 (cF s t c N S W b hd o (kv "turn" (nat u)++(kv "draw" (.int (gg c u))++y))) E1 (aL hd (aV S))=some (.next,cF s t c N S W b hd o (kv "turn" (nat u)++(kv "draw" (.int (gg c u))++(kv "left" (wv T)++y'))),aL hd (aV S)):=by
   have hv:=Q9 k s t c N S W b hd y o (gg c u) (nat u) hb (Ip hd S);rw [yp] at hv;rcases hy with rfl|⟨l,f,rfl⟩
   ·exact⟨[],.inl rfl,dP (by kernel_rfl!) rfl hv (by kernel_rfl!)⟩
   ·exact⟨_,.inr ⟨f,rfl⟩,dP (by kernel_rfl!) rfl hv (by kernel_rfl!)⟩
  refine aj e1 ?_;clear e1;intro y' hy' e1;have e2:aZ (CC (k+5)) 85 (cF s t c N S W b hd o (kv "turn" (nat u)++(kv "draw" (.int (gg c u))++(kv "left" (wv T)++y')))) E2 (aL hd (aV S))=some (.next,cF s t c N S W b hd o (kv "turn" (nat u)++(kv "draw" (.int (gg c u))++(kv "left" (wv T)++kv "fewer" (sub (hs (c8 S T)))))),aL hd (aV S)):=by
   rcases hy' with rfl|⟨f,rfl⟩
   ·exact dP (by kernel_rfl!) (cW _) (Fv (k+4) s t c N S W b hd _ o T _ _ _) (by kernel_rfl!)
   ·exact dP (by kernel_rfl!) (cW _) (Fv (k+4) s t c N S W b hd _ o T _ _ _) (by kernel_rfl!)
  have hg:=Q7 (k+2) s t c N S W b hd [] o T (nat u) (.int (gg c u)) hh hS hT hr he;rw [append_nil] at hg;have e3:aZ (CC (k+5)) 84 (cF s t c N S W b hd o (kv "turn" (nat u)++(kv "draw" (.int (gg c u))++(kv "left" (wv T)++kv "fewer" (sub (hs (c8 S T))))))) zz (aL hd (aV S))=some (.next,cF s t c N S W b hd o (kv "turn" (nat u)++(kv "draw" (.int (gg c u))++(kv "left" (wv T)++kv "fewer" (sub (hs (c8 S T)))))),aL hd (aV T)):=
   dO (by kernel_rfl!) hg (by kernel_rfl!)
  have e4:aZ (CC (k+5)) 83 (cF s t c N S W b hd o (kv "turn" (nat u)++(kv "draw" (.int (gg c u))++(kv "left" (wv T)++kv "fewer" (sub (hs (c8 S T))))))) QC (aL hd (aV T))=some (.next,cF s t c N T W b hd (!o) (kv "turn" (nat u)++(kv "draw" (.int (gg c u))++(kv "left" (wv T)++kv "fewer" (sub (hs (c8 S T)))))),aL hd (aV T)):=by
   cases o with
   | true=>exact Af (by kernel_rfl!) (v:=.tup [wv T,.bool false]) (σ':=aL hd (aV T)) (by kernel_rfl!) rfl (by kernel_rfl!)
   | false=>exact Af (by kernel_rfl!) (v:=.tup [wv T,.bool true]) (σ':=aL hd (aV T)) (by kernel_rfl!) rfl (by kernel_rfl!)
  exact aF (by kernel_rfl!) (cL (by kernel_rfl!) ht (aF (by kernel_rfl!) e0 (aF (by kernel_rfl!) e1 (aF (by kernel_rfl!) e2 (aF (by kernel_rfl!) e3 (aF (by kernel_rfl!) e4 (bC (by kernel_rfl!)))))))) (bC (by kernel_rfl!))
theorem Ra(hW:Good W)(hb:b<28)(hh:hd<4)(S:Nat→Nat)(hS:∀i<5,S i≤5)(ht:tot S≤25):∃S' o' x,(∃u,x=kv "turn" u∨∃d l f,x=kv "turn" u++(kv "draw" d++(kv "left" l++kv "fewer" f)))∧tot S'=0∧aZ (CC (k+5)) 91 (cF s t c N S W b hd (!cC S W) []) lL (aL hd (aV S))=some (.next,cF s t c N S' W b hd o' x,aL hd (aV S')):=by
 obtain⟨cG,σ2,⟨S',o',x,hx,rfl,rfl,h1,h2,h3⟩,h⟩:=iP (C:=CC (k+5)) (n:=89) (st:=lL) (me:=cF s t c N S W b hd (!cC S W) []) (σ:=aL hd (aV S)) (σ':=aL hd (aV S)) (g:=nat) (L:=List.range 26)
  (fun done me s'=>∃S' o' x,(done=[]∧x=[]∨∃u,x=kv "turn" u∨∃d l f,x=kv "turn" u++(kv "draw" d++(kv "left" l++kv "fewer" f)))∧me=cF s t c N S' W b hd o' x∧s'=aL hd (aV S')∧(∀i<5,S' i≤5)∧o'=(!cC S' W)∧(tot S'+done.length≤25∨tot S'=0))
  (by kernel_rfl!) (by kernel_rfl!) (by kernel_rfl!) (by kernel_rfl!) ⟨S,_,[],.inl ⟨rfl,rfl⟩,rfl,rfl,hS,rfl,.inl ht⟩
  (fun done u rest me s' hL hI=>by
   refine LB hI ?_;clear hI;rintro S' o' x hx rfl rfl h1 h2 h3;have hu:u<26:=mem_range.mp (by rw [hL];simp)
   obtain⟨z,hz,ha⟩:∃z,(z=[]∨∃d l f,z=kv "draw" d++(kv "left" l++kv "fewer" f))∧cM (cF s t c N S' W b hd o' x) (bR lL) (nat u)=some (cF s t c N S' W b hd o' (kv "turn" (nat u)++z)):=by
    rcases hx with⟨_,rfl⟩|⟨v,rfl|⟨d,l,f,rfl⟩⟩
    ·exact⟨[],.inl rfl,by kernel_rfl!⟩
    ·exact⟨[],.inl rfl,by kernel_rfl!⟩
    ·exact⟨_,.inr ⟨d,l,f,rfl⟩,by kernel_rfl!⟩
   refine LA (Rd k s t c N W b hd hW hb hh S' o' u hu h1 h2 z hz) ?_;intro S2 o2 z' hz' g1 g2 g3 hb';refine⟨_,_,_,ha,hb',S2,o2,_,.inr ⟨nat u,?_⟩,rfl,rfl,g1,g2,?_⟩
   ·rcases hz' with rfl|⟨d,l,f,rfl⟩
    ·exact .inl rfl
    ·exact .inr ⟨d,l,f,rfl⟩
   ·rw [List.length_append,List.length_singleton];rcases g3 with g3|g3
    ·rcases h3 with h3|h3
     ·exact .inl (by lia)
     ·lia
    ·exact .inr g3)
 refine⟨S',o',x,?_,?_,h⟩
 ·rcases hx with⟨hn,_⟩|hx
  ·cases hn
  ·exact hx
 ·rcases h3 with h3|h3
  ·rw [length_range] at h3;lia
  ·exact h3
theorem HB{S:Nat→Nat}(h:tot S=0):∀i<5,S i=0:=by
 have e:tot S=S 0+(S 1+(S 2+(S 3+(S 4+0)))):=rfl;rw [e] at h;have f:=fun {a b:Nat} (h:a+b=0)=>Nat.eq_zero_of_add_eq_zero h;exact b8 (f h).1 (f (f h).2).1 (f (f (f h).2).2).1 (f (f (f (f h).2).2).2).1 (f (f (f (f (f h).2).2).2).2).1
theorem JG(hd:Nat){S:Nat→Nat}(h:tot S=0):aL hd (aV S)=aL hd fun Z=>[]:=by
 refine oK fun i hi=>?_;unfold aV;rw [HB h i hi];rfl
noncomputable def CR(hd:Nat):V:=.lst [.tup [.tup [.str (ofString ""),.str (ofString "")],nat hd],.tup [.tup [.str (ofString ""),.str (ofString "")],nat hd],.tup [.tup [.str (ofString ""),.str (ofString "")],nat hd],.tup [.tup [.str (ofString ""),.str (ofString "")],nat hd],.tup [.tup [.str (ofString ""),.str (ofString "")],nat hd]]
noncomputable abbrev lE:Stmt:=sN (((((((((fQ.drop 1).drop 1).drop 1).drop 1).drop 1).drop 1).drop 1).drop 1).drop 1) 0
noncomputable abbrev lR:Stmt:=sN ((((((((((fQ.drop 1).drop 1).drop 1).drop 1).drop 1).drop 1).drop 1).drop 1).drop 1).drop 1) 0
theorem Q6(S:Nat→Nat)(o:Bool)(x:List (Str×V)):∀hd<4,ak (CC (k+3)) 89 (cF s t c N S W b hd o x) (br lE) (aL hd fun Z=>[])=some (CR hd,aL hd fun Z=>[]):=by
 refine Fg ?_ ?_ ?_ ?_<;>kernel_rfl!
theorem Q8(S:Nat→Nat)(o:Bool)(x:List (Str×V))(hx:∃u,x=kv "turn" u∨∃d l f,x=kv "turn" u++(kv "draw" d++(kv "left" l++kv "fewer" f))):∀hd<4,∃az,aU (CC (k+3)) 91 (cF s t c N S W b hd o x) [lE,lR] (aL hd fun Z=>[])=some (.ret (.bool true),az,aL hd fun Z=>[]):=by
 intro hd hh;refine aA hx ?_;clear hx;intro u hx;refine⟨_,aF (by kernel_rfl!) (az:=cF s t c N S W b hd o (x++kv "ends" (CR hd))) (dO (by kernel_rfl!) (Q6 k s t c N W b S o x hd hh) ?_) (gD (by kernel_rfl!) (gF (by kernel_rfl!) ?_))⟩
 ·rcases hx with rfl|⟨d,l,f,rfl⟩<;>kernel_rfl!
 ·revert hd;rcases hx with rfl|⟨d,l,f,rfl⟩<;>refine Fg ?_ ?_ ?_ ?_<;>kernel_rfl!
theorem AB(N:Nat→Nat):∀i<5,bT N i≤5:=fun i Z=>by unfold bT;lia
theorem VB(N:Nat→Nat):tot (bT N)≤25:=by
 have e:tot (bT N)=bT N 0+(bT N 1+(bT N 2+(bT N 3+(bT N 4+0)))):=rfl;have h:=AB N;rw [e];exact add_le_add (h 0 (by decide)) (add_le_add (h 1 (by decide)) (add_le_add (h 2 (by decide)) (add_le_add (h 3 (by decide)) (h 4 (by decide)))))
theorem Rb(hW:Good (cU N)):∃az σ',aU (CC (k+5)) 100 (aJ bU (eB s t c N)) fQ []=some (.ret (.bool true),az,σ'):=by
 refine dw (Ra k s t c N (cU N) (dI c) (dh c) hW (BH c) (yz c) (bT N) (AB N) (VB N)) ?_;intro S' o' x hx h0 hl;rw [JG (dh c) h0] at hl;refine aA (Q8 (k+2) s t c N (cU N) (dI c) S' o' x hx (dh c) (yz c)) ?_;intro az he;refine⟨az,aL (dh c) fun Z=>[],?_⟩;have r0:aZ (CC (k+5)) 99 (aJ bU (eB s t c N)) (sN fQ 0) []=some (.next,aJ bU (eB s t c N),[]):=by
  refine cL (by kernel_rfl!) (b:=false) (σ':=[]) (fF (by kernel_rfl!) (a:=wv N) (b:=wv N) (σ':=[]) (by kernel_rfl!) (by kernel_rfl!) ?_) (bC (by kernel_rfl!))
  refine (Cs (a:=[N 0,N 1,N 2,N 3,N 4]) (b:=[N 0,N 1,N 2,N 3,N 4]) rfl rfl).trans ?_;simp
 have r1:aZ (CC (k+5)) 98 (aJ bU (eB s t c N)) (sN (fQ.drop 1) 0) []=some (.next,aJ bU (eB s t c N++[(("sizes":Str),wv (bT N))]),[]):=
  dO (by kernel_rfl!) (Rc (k+4) s t c N []) (by kernel_rfl!)
 have r2:aZ (CC (k+5)) 97 (aJ bU (eB s t c N++[(("sizes":Str),wv (bT N))])) (sN ((fQ.drop 1).drop 1) 0) []=some (.next,aJ bU (eB s t c N++[(("sizes":Str),wv (bT N)),(("ways":Str),wv (cU N))]),[]):=
  dO (by kernel_rfl!) (Rg (k+4) s t c N []) (by kernel_rfl!)
 have r3:aZ (CC (k+5)) 96 (aJ bU (eB s t c N++[(("sizes":Str),wv (bT N)),(("ways":Str),wv (cU N))])) (sN (((fQ.drop 1).drop 1).drop 1) 0) []=some (.next,aJ bU (eB s t c N++[(("sizes":Str),wv (bT N)),(("ways":Str),wv (cU N)),(("base":Str),nat (dI c)),(("head":Str),nat (dh c))]),[]):=by
  show _=some (Fl.next,aJ bU (eB s t c N++[(("sizes":Str),wv (bT N)),(("ways":Str),wv (cU N)),(("base":Str),V.int ((dI c:Nat):Int)),(("head":Str),V.int ((dh c:Nat):Int))]),[])
  rw [JF,NW];kernel_rfl!
 have r4:aZ (CC (k+5)) 95 (aJ bU (eB s t c N++[(("sizes":Str),wv (bT N)),(("ways":Str),wv (cU N)),(("base":Str),nat (dI c)),(("head":Str),nat (dh c))])) (sN ((((fQ.drop 1).drop 1).drop 1).drop 1) 0) []=some (.next,aJ bU (eB s t c N++[(("sizes":Str),wv (bT N)),(("ways":Str),wv (cU N)),(("base":Str),nat (dI c)),(("head":Str),nat (dh c)),(("marks":Str),fS (dI c))]),[]):=
  dO (by kernel_rfl!) (cN (by kernel_rfl!) (fv:=.base 157) (vs:=[nat (dI c)]) (σ':=[]) (by kernel_rfl!) (by kernel_rfl!) (RE (k+3) (BH c) [])) (by kernel_rfl!)
 have r5:aZ (CC (k+5)) 94 (aJ bU (eB s t c N++[(("sizes":Str),wv (bT N)),(("ways":Str),wv (cU N)),(("base":Str),nat (dI c)),(("head":Str),nat (dh c)),(("marks":Str),fS (dI c))])) (sN (((((fQ.drop 1).drop 1).drop 1).drop 1).drop 1) 0) []=some (.next,aJ bU (eB s t c N++[(("sizes":Str),wv (bT N)),(("ways":Str),wv (cU N)),(("base":Str),nat (dI c)),(("head":Str),nat (dh c)),(("marks":Str),fS (dI c)),(("piles":Str),gY)]),aL (dh c) (aV (bT N))):=
  dO (by kernel_rfl!) (cN (by kernel_rfl!) (fv:=.base 201) (vs:=[wv (bT N),nat (dh c)]) (σ':=[]) (by kernel_rfl!) (by kernel_rfl!) (MB (k+2) (bT N) (AB N) (yz c))) (by kernel_rfl!)
 have r6:aZ (CC (k+5)) 93 (aJ bU (eB s t c N++[(("sizes":Str),wv (bT N)),(("ways":Str),wv (cU N)),(("base":Str),nat (dI c)),(("head":Str),nat (dh c)),(("marks":Str),fS (dI c)),(("piles":Str),gY)])) (sN ((((((fQ.drop 1).drop 1).drop 1).drop 1).drop 1).drop 1) 0) (aL (dh c) (aV (bT N)))=some (.next,aJ bU (eB s t c N++[(("sizes":Str),wv (bT N)),(("ways":Str),wv (cU N)),(("base":Str),nat (dI c)),(("head":Str),nat (dh c)),(("marks":Str),fS (dI c)),(("piles":Str),gY),(("ours":Str),.bool (!cC (bT N) (cU N)))]),aL (dh c) (aV (bT N))):=
  dO (by kernel_rfl!) (Gy (by kernel_rfl!) (v:=.bool (cC (bT N) (cU N))) (σ':=aL (dh c) (aV (bT N))) (cN (by kernel_rfl!) (fv:=.base 169) (vs:=[wv (bT N),wv (cU N)]) (σ':=aL (dh c) (aV (bT N))) (by kernel_rfl!) (by kernel_rfl!) (C1 (k+3) (bT N) (cU N) _)) rfl) (by kernel_rfl!)
 have r7:aZ (CC (k+5)) 92 (aJ bU (eB s t c N++[(("sizes":Str),wv (bT N)),(("ways":Str),wv (cU N)),(("base":Str),nat (dI c)),(("head":Str),nat (dh c)),(("marks":Str),fS (dI c)),(("piles":Str),gY),(("ours":Str),.bool (!cC (bT N) (cU N)))])) (sN (((((((fQ.drop 1).drop 1).drop 1).drop 1).drop 1).drop 1).drop 1) 0) (aL (dh c) (aV (bT N)))=some (.next,cF s t c N (bT N) (cU N) (dI c) (dh c) (!cC (bT N) (cU N)) [],aL (dh c) (aV (bT N))):=by
  kernel_rfl!
 have OO:((((((((fQ.drop 1).drop 1).drop 1).drop 1).drop 1).drop 1).drop 1).drop 1).drop 1=[lE,lR]:=by kernel_rfl!
 refine aF (by kernel_rfl!) r0 (aF (by kernel_rfl!) r1 (aF (by kernel_rfl!) r2 (aF (by kernel_rfl!) r3 (aF (by kernel_rfl!) r4 (aF (by kernel_rfl!) r5 (aF (by kernel_rfl!) r6 (aF (by kernel_rfl!) r7 (aF (by kernel_rfl!) hl ?_))))))))
 rw [OO];exact he
end
theorem Gl{α β:Type}(f:α→β)(l:List α)(lo hi st:Option Int):fE (l.map f) lo hi st=(fE l lo hi st).map f:=by
 unfold fE;rw [length_map];generalize sliceRange _ _ _=r
 induction r with
 | nil=>rfl
 | cons a r ih=>rw [filterMap_cons,filterMap_cons,getElem?_map,ih];cases l[a]?<;>rfl
theorem TJ{α:Type}{l:List α}{lo hi st:Option Int}{x:α}(h:x∈fE l lo hi st):x∈l:=by
 unfold fE at h;refine aj (List.mem_filterMap.mp h) ?_;intro i _ hi;exact mem_of_getElem? hi
theorem GO{a b st:Int}{n:Nat}(hst:st=1∨st=8)(ha:0≤a)(hb:b≤n):(sliceRange a b st).length≤n:=by
 unfold sliceRange;rw [length_map,length_range];rcases hst with rfl|rfl
 ·rw [if_pos (by decide)]
  by_cases h:a<b
  ·rw [if_pos h,toNat_le];lia
  ·rw [if_neg h];exact zero_le _
 ·rw [if_pos (by decide)]
  by_cases h:a<b
  ·rw [if_pos h,toNat_le];lia
  ·rw [if_neg h];exact zero_le _
theorem Gk{α:Type}(l:List α)(hi:Option Int):(fE l none hi none).length≤l.length:=by
 refine le_trans (List.length_filterMap_le _ _) (GO (.inl rfl) (Int.le_refl 0) ?_);cases hi with
 | none=>exact Int.le_refl _
 | some i=>exact Int.max_le.mpr ⟨natCast_nonneg _,Int.min_le_right _ _⟩
theorem TH{α:Type}(l:List α)(k:Nat):(fE l (some (k:Int)) none (some 8)).length≤l.length:=
 le_trans (List.length_filterMap_le _ _) (GO (.inr rfl) (Int.le_max_left _ _) (Int.le_refl _))
theorem PN:∀l:List Int,intsOf (l.map V.int)=some l:=by
 intro l
 induction l with
 | nil=>exact rfl
 | cons a r rc=>show (intsOf (r.map V.int)).map _=_;rw [rc];rfl
theorem Gp(l:List Int):V.bD (l.map V.int)=true:=by
 rw [eX];intro v hv;refine aj (mem_map.mp hv) ?_;rintro i _ rfl;rfl
theorem Qm(k:Nat)(l:List Int)(h:∀x∈l,0≤x∧x≤1000000)(hl:l.length≤1000)(σ:aa):(CC (k+1)).call (.bi "sum") [.lst (l.map V.int)] none σ=some (.int l.sum,σ):=by
 show ((intsOf (l.map V.int)).bind fun ns=>if jc ns then some (V.int ns.sum,σ) else none)=_
 rw [PN,bind_some,if_pos (Dq l h hl)]
noncomputable def eO(ns:List Int):List Int:=(fE ns none (some 60) none).map fun x=>fmod x 1000000
noncomputable def tQ(i:Nat):Nat:=match i with|0=>62|1=>189|2=>5333|3=>11|4=>135|5=>63|6=>121|_=>77
noncomputable def iG(ns:List Int)(i:Nat):Int:=(tQ i:Int)+(fE (eO ns) (some (i:Int)) none (some 8)).sum
noncomputable def fC(ns:List Int)(i:Nat):Nat:=(fmod (iG ns i) 262144).toNat
theorem Sl(ns:List Int)(i:Nat):fC ns i<262144:=by
 have h1:=fmod_nonneg_of_pos (iG ns i) (b:=262144) (by decide)
 have h2:=fmod_lt_of_pos (iG ns i) (b:=262144) (by decide)
 exact (toNat_lt h1).mpr h2
theorem sA(ns:List Int)(i:Nat):((fC ns i:Nat):Int)=fmod (iG ns i) 262144:=by
 have h1:=fmod_nonneg_of_pos (iG ns i) (b:=262144) (by decide)
 exact toNat_of_nonneg h1
theorem VW(ns:List Int):∀x∈eO ns,0≤x∧x≤1000000:=by
 intro x hx;refine aj (mem_map.mp hx) ?_;rintro y _ rfl;have h1:=fmod_nonneg_of_pos y (b:=1000000) (by decide)
 have h2:=fmod_lt_of_pos y (b:=1000000) (by decide)
 show 0≤fmod y 1000000∧fmod y 1000000≤1000000;exact⟨h1,Int.le_of_lt h2⟩
theorem VV(ns:List Int):(eO ns).length≤ns.length:=by
 unfold eO;rw [length_map];exact Gk ns _
theorem slice_eq{σ:aa}{l:List V}{a b c:Option Int}(hl:l.length<2^20)(hc:c≠some 0):qw σ (.lst l) a b c=some (.lst (fE l a b c)):=by
 show (if l.length<2^20∧c≠some 0 then some (V.lst (fE l a b c)) else none)=_
 rw [if_pos ⟨hl,hc⟩]
section
variable(k:Nat)(ns:List Int)(hn:ns.length≤63)
noncomputable def gG(ns:List Int):V:=.lst (ns.map V.int)
include hn
theorem Ub(σ:aa):ak (CC (k+1)) 98 (aJ bU [(("script":Str),gG ns)]) (br (sN lU 0)) σ=some (.lst ((eO ns).map V.int),σ):=by
 have h1:=Gk ns (some 60);have:=kR (C:=CC (k+1)) (n:=97) (me:=aJ bU [(("script":Str),gG ns)]) (e:=br (sN lU 0)) (σ:=σ) (l:=fE ns none (some 60) none) (g:=V.int) (σ':=σ) (fun x=>V.int (fmod x 1000000)) (by kernel_rfl!) (g8 (by kernel_rfl!) (by
  refine Eq.trans (b:=(qw σ (gG ns) none (some 60) none).map fun v=>(v,σ)) (by kernel_rfl!) ?_
  unfold gG;rw [slice_eq (by rw [length_map];lia) (by decide),Gl];rfl) (by rw [length_map];lia) (Gp _)) (fun Z Z=>rfl) (fun x Z=>by kernel_rfl!) (fun Z Z=>rfl) (by rw [show sizeLine=2^24 from rfl];lia)
 rw [this];unfold eO;rw [map_map];rfl
theorem T9(σ:aa):ak (CC (k+1)) 97 (aJ bU [(("script":Str),gG ns),(("told":Str),.lst ((eO ns).map V.int))]) (br (sN (lU.drop 1) 0)) σ=some (cv (iG ns),σ):=by
 have h1:=VV ns;have:=Ai (C:=CC (k+1)) (n:=96) (me:=aJ bU [(("script":Str),gG ns),(("told":Str),.lst ((eO ns).map V.int))]) (e:=br (sN (lU.drop 1) 0)) (σ:=σ) (l:=List.range 8) (g:=fun i=>.tup [nat i,nat (tQ i)]) (σ':=σ) (fun i=>V.int (iG ns i))
  (fun i=>((eW (dJ (br (sN (lU.drop 1) 0))) (aJ bU [(("script":Str),gG ns),(("told":Str),.lst ((eO ns).map V.int))])).set "k" (nat i)).set "cell" (nat (tQ i)))
  (by kernel_rfl!) ?_ (by kernel_rfl!) (fun a Z=>by kernel_rfl!) (fun a Z b Z=>by kernel_rfl!) (by kernel_rfl!) (fun i hi=>?_) (fun Z Z=>rfl) (by decide)
 ·exact this
 ·kernel_rfl!
 ·refine fZ (by kernel_rfl!) (a:=nat (tQ i)) (b:=.int ((fE (eO ns) (some (i:Int)) none (some 8)).sum)) (σ':=σ) (by kernel_rfl!) (cN (by kernel_rfl!) (fv:=.bi "sum") (vs:=[.lst ((fE (eO ns) (some (i:Int)) none (some 8)).map V.int)]) (σ':=σ) (by kernel_rfl!) (eV (σ':=σ) (by kernel_rfl!) ?_ (i9 (by kernel_rfl!))) (Qm k _ (fun x hx=>VW ns x (TJ hx)) (by have:=TH (eO ns) i;lia) σ)) (by kernel_rfl!)
  refine Eq.trans (b:=(qw σ (.lst ((eO ns).map V.int)) (some (i:Int)) none (some 8)).map fun v=>(v,σ)) (by kernel_rfl!) ?_
  rw [slice_eq (by rw [length_map];lia) (by decide),Gl];rfl
theorem Ua:aU (CC (k+1)) 100 (aJ bU [(("script":Str),gG ns)]) lU []=some (.next,aJ bU [(("script":Str),gG ns),(("told":Str),.lst ((eO ns).map V.int)),(("cells":Str),cv (iG ns)),(("numbers":Str),wv (fC ns))],[]):=by
 have hpl:V.plain (.lst ((eO ns).map V.int))=true:=Gp _;refine aF (by kernel_rfl!) (az:=aJ bU [(("script":Str),gG ns),(("told":Str),.lst ((eO ns).map V.int))]) (σ':=[]) (dP (by kernel_rfl!) hpl (Ub k ns hn []) (by kernel_rfl!)) ?_
 refine aF (by kernel_rfl!) (az:=aJ bU [(("script":Str),gG ns),(("told":Str),.lst ((eO ns).map V.int)),(("cells":Str),cv (iG ns))]) (σ':=[]) (dO (by kernel_rfl!) (T9 k ns hn []) (by kernel_rfl!)) ?_
 refine aF (by kernel_rfl!) (az:=aJ bU [(("script":Str),gG ns),(("told":Str),.lst ((eO ns).map V.int)),(("cells":Str),cv (iG ns)),(("numbers":Str),wv (fC ns))]) (σ':=[]) ?_ (bC (by kernel_rfl!))
 show _=some (Fl.next,aJ bU [(("script":Str),gG ns),(("told":Str),.lst ((eO ns).map V.int)),(("cells":Str),cv (iG ns)),(("numbers":Str),.lst [V.int ((fC ns 0:Nat):Int),V.int ((fC ns 1:Nat):Int),V.int ((fC ns 2:Nat):Int),V.int ((fC ns 3:Nat):Int),V.int ((fC ns 4:Nat):Int)])],[])
 rw [sA,sA,sA,sA,sA];kernel_rfl!
end
section
variable{ex:ao→List Stmt→aa→Option (Fl×ao×aa)}{tr:ao→Expr→aa→Option (Bool×aa)}{test:Expr}{body orelse:List Stmt}{n d v:Nat}{me:ao}{σ σ1:aa}
noncomputable def Wd:List Stmt:=fnBody "_parse_varint"
noncomputable def jZ:Stmt:=sN ((Wd.drop 1).drop 1) 0
noncomputable def ig(b v:Nat):ao:=aJ oE [(("iterator":Str),.loc 0),(("b":Str),nat b),(("val":Str),nat v)]
noncomputable def cV(d:Nat)(ds:List Nat):Nat:=if ds.isEmpty then d+128 else d+64
noncomputable def fW:List Nat→List V
 | []=>[]
 | d::ds=>nat (cV d ds)::fW ds
theorem Ww{cG:ao}{σ2:aa}(h1:tr me test σ=some (true,σ1))(h2:ex me body σ1=some (.next,cG,σ2)) :
 gI ex tr test body orelse (n+1) me σ=gI ex tr test body orelse n cG σ2:=by
 rw [gI,h1];simp only [bind_some,if_true];rw [h2];rfl
theorem Wu(h1:tr me test σ=some (false,σ1)) :
 gI ex tr test body orelse (n+1) me σ=ex me orelse σ1:=by
 rw [gI,h1];rfl
theorem Ff(h:d<64)(ds:List Nat):cV d ds&&& 63=d:=by
 have e:cV d ds&&& 63=cV d ds%64:=Nat.and_two_pow_sub_one_eq_mod _ 6;rw [e];unfold cV
 split
 ·first|exact mod_eq_of_lt h|(rw [Nat.add_mod];simp [mod_eq_of_lt h])
 ·first|exact mod_eq_of_lt h|(rw [Nat.add_mod];simp [mod_eq_of_lt h])
theorem J6:∀d:Nat,d<64→((d+64)&&& 64 != 0)=true:=by decide
theorem J7:∀d:Nat,d<64→((d+128)&&& 64 != 0)=false:=by decide
theorem J5(h:d<64)(ds:List Nat):(cV d ds&&& 64 != 0)=!ds.isEmpty:=by
 unfold cV;cases ds with
 | nil=>exact J7 d h
 | cons a r=>exact J6 d h
theorem SY(v d:Nat)(h:d<64):v*64||| d=v*64+d:=by
 have:=Nat.two_pow_add_eq_or_of_lt (i:=6) (b:=d) h v;rw [show (2:Nat)^6*v=v*64 by lia] at this
 exact this.symm
theorem HK(k:Nat)(h:d<64)(ds:List Nat)(σ:aa):aX (CC (k+1)) 96 (ig (cV d ds) v) (bR jZ) σ=some (!ds.isEmpty,σ):=by
 rw [←J5 h ds];exact n8 (by kernel_rfl!) (v:=.int (Builtin.bitAnd ((cV d ds:Nat):Int) ((64:Nat):Int))) (by kernel_rfl!) (AJ _ _ _)
theorem BE{op:Operator}{a b r:Int}(h:op=.Add∨op=.BitXor∨op=.BitOr∨op=.LShift)(hr:kE op a b=some r):mU op (.int a) (.int b)=some (.int r):=by
 show (if _ then (kE op a b).map V.int else none)=_
 rw [if_pos h,hr];rfl
theorem We(k:Nat){b e:Nat}{es:List Nat}(hv:v<2^40)(he:e<64)(r:List V):aU (CC (k+1)) 96 (ig b v) (aW jZ) [.iter (nat (cV e es)::r)]=some (.next,ig (cV e es) (v*64+e),[.iter r]):=by
 have e0:aZ (CC (k+1)) 95 (ig b v) (sN (aW jZ) 0) [.iter (nat (cV e es)::r)]=some (.next,ig b (v*64),[.iter (nat (cV e es)::r)]):=by
  refine Ag (by kernel_rfl!) (old:=nat v) (by kernel_rfl!) (v:=nat 6) (by kernel_rfl!) (r:=nat (v*64)) ?_ (by kernel_rfl!)
  rw [show tK (sN (aW jZ) 0)=.LShift by kernel_rfl!]
  exact BE (.inr (.inr (.inr rfl))) ((if_pos ⟨by decide,by decide,by rw [Int.natAbs_natCast];exact lt_trans hv (by decide)⟩).trans rfl)
 have e1:aZ (CC (k+1)) 94 (ig b (v*64)) (sN ((aW jZ).drop 1) 0) [.iter (nat (cV e es)::r)]=some (.next,ig (cV e es) (v*64),[.iter r]):=by
  generalize cV e es=x;kernel_rfl!
 have e2:aZ (CC (k+1)) 93 (ig (cV e es) (v*64)) (sN (((aW jZ).drop 1).drop 1) 0) [.iter r]=some (.next,ig (cV e es) (v*64+e),[.iter r]):=by
  refine Ag (by kernel_rfl!) (old:=nat (v*64)) (by kernel_rfl!) (v:=.int (Builtin.bitAnd ((cV e es:Nat):Int) ((63:Nat):Int))) (by kernel_rfl!) (r:=nat (v*64+e)) ?_ (by kernel_rfl!)
  rw [tF,Ff he];rw [show tK (sN (((aW jZ).drop 1).drop 1) 0)=.BitOr by kernel_rfl!]
  refine BE (.inr (.inr (.inl rfl))) (congrArg some ?_);rw [zY,SY v e he]
 exact aF (by kernel_rfl!) e0 (aF (by kernel_rfl!) e1 (aF (by kernel_rfl!) e2 (bC (by kernel_rfl!))))
noncomputable def valN(v:Nat)(ds:List Nat):Nat:=ds.foldl (fun v d=>v*64+d) v
theorem Wg(k:Nat)(r:List V):∀(ds:List Nat) (d v fuel:Nat),d<64→(∀x∈ds,x<64)→v<64^(4 - ds.length)→ds.length≤3→ds.length<fuel→
 ∃b,gI (aU (CC (k+1)) 96) (aX (CC (k+1)) 96) (bR jZ) (aW jZ) (iS jZ) fuel (ig (cV d ds) v) [.iter (fW ds++r)]=some (.next,ig b (valN v ds),[.iter r]):=by
 intro ds
 induction ds with
 | nil=>intro d v fuel hd _ _ _ hf;obtain⟨f,rfl⟩:∃f,fuel=f+1:=⟨fuel - 1,(Nat.succ_pred_eq_of_pos hf).symm⟩;refine⟨cV d [],?_⟩;exact (Wu (HK k hd [] _)).trans (bC (by kernel_rfl!))
 | cons e es rc=>
  intro d v fuel hd hds hv hl hf;obtain⟨f,rfl⟩:∃f,fuel=f+1:=⟨fuel - 1,(Nat.succ_pred_eq_of_pos (lt_of_le_of_lt (zero_le _) hf)).symm⟩;have he:=hds e mem_cons_self;have hl':es.length+1≤3:=hl;have hv':v<2^40:=lt_of_lt_of_le hv (le_trans (Nat.pow_le_pow_right (by decide) (sub_le 4 _)) (by decide))
  have hv2:v*64+e<64^(4 - es.length):=by
   have e1:4 - es.length=(4 - (e::es).length)+1:=by
    rw [length_cons,Nat.sub_add_eq,Nat.sub_add_cancel (Nat.le_sub_of_add_le (le_trans (add_comm 1 _▸hl') (by decide)))]
   rw [e1,Nat.pow_succ];exact lt_of_lt_of_le (Nat.add_lt_add_left he _) (Nat.succ_mul v 64▸Nat.mul_le_mul_right 64 hv)
  refine aA (rc e (v*64+e) f he (fun x hx=>hds x (mem_cons_of_mem _ hx)) hv2 (Nat.le_of_succ_le hl') (Nat.lt_of_succ_lt_succ hf)) ?_;intro b ih;refine⟨b,?_⟩;exact (Ww (HK k hd (e::es) _) (We k hv' he (fW es++r))).trans ih
theorem Wf(k:Nat)(d:Nat)(ds:List Nat)(hd:d<64)(hds:∀x∈ds,x<64)(hl:ds.length≤3)(r:List V):(CC (k+2)).call (.base 147) [.loc 0] none [.iter (fW (d::ds)++r)]=some (nat (valN d ds),[.iter r]):=by
 obtain⟨b,hw⟩:=Wg k r ds d d 96 hd hds (by
  have:64^1≤64^(4 - ds.length):=Nat.pow_le_pow_right (by decide) (Nat.le_sub_of_add_le (add_comm ds.length 1▸Nat.succ_le_succ hl))
  exact lt_of_lt_of_le hd this) hl (lt_of_le_of_lt hl (by decide))
 have hx:aU (CC (k+1)) 100 (aJ oE [(("iterator":Str),.loc 0)]) oE.body [.iter (fW (d::ds)++r)]=some (.ret (nat (valN d ds)),ig b (valN d ds),[.iter r]):=by
  refine aF (by kernel_rfl!) (az:=aJ oE [(("iterator":Str),.loc 0),(("b":Str),nat (cV d ds))]) (σ':=[.iter (fW ds++r)]) ?_ ?_
  ·show aZ _ _ _ _ [.iter (nat (cV d ds)::(fW ds++r))]=_;generalize cV d ds=x;generalize fW ds++r=y;kernel_rfl!
  refine aF (by kernel_rfl!) (az:=ig (cV d ds) d) (σ':=[.iter (fW ds++r)]) ?_ ?_
  ·refine dO (by kernel_rfl!) (v:=nat d) ?_ (by kernel_rfl!)
   refine Eq.trans (b:=some (.int (Builtin.bitAnd ((cV d ds:Nat):Int) ((63:Nat):Int)),[.iter (fW ds++r)])) (by kernel_rfl!) ?_
   rw [tF,Ff hd]
  refine aF (by kernel_rfl!) (Al (by kernel_rfl!) hw) ?_
  exact gD (by kernel_rfl!) (gF (by kernel_rfl!) (by kernel_rfl!))
 rw [gC (f:=oE) (bs:=[(("iterator":Str),.loc 0)]) (by kernel_rfl!) (by kernel_rfl!) (by kernel_rfl!) hx]
 congr 1;exact lF 0 [.iter r] _
end
section
variable{C:Calls}{n:Nat}{me az:ao}{st:Stmt}{e:Expr}{σ σ' bA:aa}{v w:V}
theorem Lh{α:Type}{g:α→V}{t elt:Expr}(f:α→V)(E:α→ao)(Sg:List α→aa)(L:List α)
 (ha2:∀a∈L,∀b∈L,cM (E b) t (g a)=some (E a)) (he:∀done a rest,L=done++a::rest→ak C n (E a) elt (Sg (a::rest))=some (f a,Sg rest)) (hp:∀a∈L,(f a).plain=true) :
 ∀(l done:List α) (me:ao),L=done++l→(∀a∈L,cM me t (g a)=some (E a))→∃az,mW (aX C n) (lA (ak C n) (aX C n) C elt []) t [] (l.map g) me (Sg l)=some (l.map f,az,Sg []):=by
 intro l
 induction l with
 | nil=>intro _ me _ _;exact⟨me,rfl⟩
 | cons a r rc=>
  intro done me hL ha;have hm:a∈L:=by rw [hL];simp
  refine aA (rc (done++[a]) (E a) (by rw [hL];simp) (fun b hb=>ha2 b hb a hm)) ?_;intro az ih
  refine⟨az,?_⟩;have e2:lA (ak C n) (aX C n) C elt [] (E a) (Sg (a::r))=some ([f a],E a,Sg r):=by
   exact aK (he done a r hL) (if_pos (hp a hm))
  exact aK (ha a hm) (aK rfl (aK e2 (cS ih rfl)))
theorem Ul{α:Type}{l:List α}{g:α→V}(f:α→V)(E:α→ao)(Sg:List α→aa)(h:(rT e&&(qQ e).isEmpty)=true)(hg:((!fP C me (jF e)||ez (gf e))&&i7 me (dJ e))=true)
 (hi:dD (ak C n) C me (jF e) σ=some (l.map g,Sg l)) (ha:∀a∈l,cM (eW (dJ e) me) (gf e) (g a)=some (E a)) (ha2:∀a∈l,∀b∈l,cM (E b) (gf e) (g a)=some (E a))
 (he:∀done a rest,l=done++a::rest→ak C n (E a) (jE e) (Sg (a::rest))=some (f a,Sg rest)) (hp:∀a∈l,(f a).plain=true) (hl:l.length≤sizeLine) :
 ak C (n+1) me e σ=some (.lst (l.map f),Sg []):=by
 refine au (gv h) ?_;intro h0 hq;refine fu (Et bF h0) ?_;rintro elt gs sc q rfl h2;refine aj (i1 bF h2) ?_;intro hh;obtain⟨t,it,ifs,a⟩:=hh;rintro rfl h3;obtain rfl:a=0:=of_decide_eq_true h3;obtain rfl:ifs=[]:=isEmpty_iff.mp hq;refine au (gv hg) ?_;intro h4 h5;refine aA (Lh (C:=C) (n:=n) f E Sg l ha2 he hp l [] (eW sc me) rfl ha) ?_;intro az hc;show (if decide ((0:Int)=0)&&List.all ([]:List Comprehension) (fun g=>decide (g.is_async=0))&&(!fP C me it||ez t)&&i7 me sc then (dD (ak C n) C me it σ).bind _ else none)=_
 refine (if_pos (and_eq_true_iff.mpr ⟨and_eq_true_iff.mpr ⟨rfl,h4⟩,h5⟩)).trans (aK hi (aK hc (if_pos ?_)));rw [length_map];exact hl
noncomputable def Qi:Expr→Bool:=jB false fun Z i Z=>wg false (fun l h s Z=>l.isSome&&h.isNone&&s.isNone) i
noncomputable def sM:Expr→Expr:=jB eU fun Z i Z=>wg eU (fun l Z Z Z=>l.getD eU) i
theorem Aj{o:V}{j:Int}(h:Qi e=true)(h1:ak C n me (eN (bh e) 0) σ=some (o,σ'))(h2:ak C n me (sM e) σ'=some (.int j,bA))(hv:qw bA o (some j) none none=some v):ak C (n+1) me e σ=some (v,bA):=by
 refine bG (nG bF h) ?_;rintro a i q rfl h3;refine fu (Eu bF h3) ?_;rintro l hh s p rfl h4;refine au (gv h4) ?_;intro h5 h6;refine au (gv h5) ?_;intro h7 h8;refine aA (isSome_iff_exists.mp h7) ?_;rintro lo rfl;obtain rfl:=isNone_iff_eq_none.mp h6;obtain rfl:=isNone_iff_eq_none.mp h8;exact aK (x:=ak C n me a σ) h1 (aK (x:=(ak C n me lo σ').map _) (cS h2 rfl) (aK rfl (aK rfl (aK rfl (aK rfl (aK rfl (cS hv rfl)))))))
end
noncomputable def dK(n:Nat):List Nat:=[n/4096,n/64%64,n%64]
noncomputable def bM(i n:Nat):List Nat:=if i%2=1∨0<n/4096 then dK n else if 0<n/64%64 then [n/64%64,n%64] else [n%64]
noncomputable def gb(N:Nat→Nat)(x:List (Str×V)):ao:=aJ sJ ([(("numbers":Str),wv N)]++x)
theorem Uw(k:Nat)(N:Nat→Nat)(σ:aa):ak (CC (k+1)) 98 (gb N []) (br (sN eZ 0)) σ=some (.lst ([N 0,N 1,N 2,N 3,N 4].map fun n=>sub (dK n)),σ):=by
 refine kR (l:=[N 0,N 1,N 2,N 3,N 4]) (g:=nat) (σ':=σ) (fun n=>sub (dK n)) (by kernel_rfl!) (by kernel_rfl!) (fun Z Z=>rfl) ?_ (fun Z Z=>cW _) (show 5≤sizeLine by decide)
 intro n _;have e1:((n/4096:Nat):Int)=fdiv (n:Int) 4096:=(pB n 4096).symm;have e2:((n/64%64:Nat):Int)=fmod (fdiv (n:Int) 64) 64:=by
  have h:=pB n 64;rw [show ((64:Nat):Int)=64 from rfl] at h;rw [h];exact (mZ (n/64) 64).symm
 have e3:((n%64:Nat):Int)=fmod (n:Int) 64:=(mZ n 64).symm;show _=some (V.lst [V.int ((n/4096:Nat):Int),V.int ((n/64%64:Nat):Int),V.int ((n%64:Nat):Int)],σ);rw [e1,e2,e3];kernel_rfl!
theorem Ut(k:Nat)(N:Nat→Nat)(σ:aa):ak (CC (k+1)) 97 (gb N (kv "rows" (.lst ([N 0,N 1,N 2,N 3,N 4].map fun n=>sub (dK n))))) (br (sN (eZ.drop 1) 0)) σ=some (.lst ((List.range 5).map fun i=>sub (bM i (N i))),σ):=by
 refine Ai (l:=List.range 5) (g:=fun i=>.tup [nat i,sub (dK (N i))]) (σ':=σ) (fun i=>sub (bM i (N i))) (fun i=>((eW (dJ (br (sN (eZ.drop 1) 0))) (gb N (kv "rows" (.lst ([N 0,N 1,N 2,N 3,N 4].map fun n=>sub (dK n)))))).set "k" (nat i)).set "row" (sub (dK (N i)))) (by kernel_rfl!) (by kernel_rfl!) (by kernel_rfl!) ?_ ?_ (by kernel_rfl!) ?_ (fun Z Z=>cW _) (by decide)
 ·intro a _;kernel_rfl!
 ·intro a _ b _;kernel_rfl!
 ·intro i hi;have Ea:=mem_range.mp hi;generalize N i=n;have c1:aX (CC (k+1)) 94 (((eW (dJ (br (sN (eZ.drop 1) 0))) (gb N (kv "rows" (.lst ([N 0,N 1,N 2,N 3,N 4].map fun n=>sub (dK n)))))).set "k" (nat i)).set "row" (sub (dK n))) (eN (bh (sM (jE (br (sN (eZ.drop 1) 0))))) 0) σ=some (decide (i%2=1)||decide (0<n/4096),σ):=by
   have a1:aX (CC (k+1)) 93 (((eW (dJ (br (sN (eZ.drop 1) 0))) (gb N (kv "rows" (.lst ([N 0,N 1,N 2,N 3,N 4].map fun n=>sub (dK n)))))).set "k" (nat i)).set "row" (sub (dK n))) (eN (bh (eN (bh (sM (jE (br (sN (eZ.drop 1) 0))))) 0)) 0) σ=some (decide (i%2=1),σ):=by
    clear hi;revert i;refine b8 ?_ ?_ ?_ ?_ ?_<;>kernel_rfl!
   have a2:aX (CC (k+1)) 93 (((eW (dJ (br (sN (eZ.drop 1) 0))) (gb N (kv "rows" (.lst ([N 0,N 1,N 2,N 3,N 4].map fun n=>sub (dK n)))))).set "k" (nat i)).set "row" (sub (dK n))) (eN ((bh (eN (bh (sM (jE (br (sN (eZ.drop 1) 0))))) 0)).drop 1) 0) σ=some (decide (0<n/4096),σ):=by
    refine fF (by kernel_rfl!) (a:=nat (n/4096)) (b:=nat 0) (σ':=σ) (by kernel_rfl!) (by kernel_rfl!) ?_
    exact congrArg some (uy (n/4096) 0)
   refine g6 (by kernel_rfl!) ?_
   cases h1:decide (i%2=1) with
   | true=>exact qp (by kernel_rfl!) (a1.trans (by rw [h1]))
   | false=>
    refine mh (by kernel_rfl!) (a1.trans (by rw [h1])) ?_
    cases h2:decide (0<n/4096) with
    | true=>exact qp (by kernel_rfl!) (a2.trans (by rw [h2]))
    | false=>exact mh (by kernel_rfl!) (a2.trans (by rw [h2])) (vJ (by kernel_rfl!))
  have c2:aX (CC (k+1)) 93 (((eW (dJ (br (sN (eZ.drop 1) 0))) (gb N (kv "rows" (.lst ([N 0,N 1,N 2,N 3,N 4].map fun n=>sub (dK n)))))).set "k" (nat i)).set "row" (sub (dK n))) (eN (bh (eN (bh (sM (jE (br (sN (eZ.drop 1) 0))))) 2)) 0) σ=some (decide (0<n/64%64),σ):=by
   refine fF (by kernel_rfl!) (a:=nat (n/64%64)) (b:=nat 0) (σ':=σ) (by kernel_rfl!) (by kernel_rfl!) ?_
   exact congrArg some (uy (n/64%64) 0)
  by_cases h1:i%2=1∨0<n/4096
  ·have hb:(decide (i%2=1)||decide (0<n/4096))=true:=by simpa using h1
   rw [hb] at c1;have:bM i n=dK n:=by unfold bM;rw [if_pos h1]
   rw [this];exact Aj (by kernel_rfl!) (o:=sub (dK n)) (j:=0) (σ':=σ) (by kernel_rfl!) (l9 (by kernel_rfl!) c1 (by kernel_rfl!)) (by kernel_rfl!)
  ·have hb:(decide (i%2=1)||decide (0<n/4096))=false:=by simpa using h1
   rw [hb] at c1
   by_cases h2:0<n/64%64
   ·rw [decide_eq_true h2] at c2;have:bM i n=[n/64%64,n%64]:=by unfold bM;rw [if_neg h1,if_pos h2]
    rw [this];exact Aj (by kernel_rfl!) (o:=sub (dK n)) (j:=1) (σ':=σ) (by kernel_rfl!) (l9 (by kernel_rfl!) c1 (l9 (by kernel_rfl!) c2 (by kernel_rfl!))) (by kernel_rfl!)
   ·rw [decide_eq_false h2] at c2;have:bM i n=[n%64]:=by unfold bM;rw [if_neg h1,if_neg h2]
    rw [this];exact Aj (by kernel_rfl!) (o:=sub (dK n)) (j:=2) (σ':=σ) (by kernel_rfl!) (l9 (by kernel_rfl!) c1 (l9 (by kernel_rfl!) c2 (by kernel_rfl!))) (by kernel_rfl!)
noncomputable def qi(l:List (List Nat)):List V:=l.flatMap fW
noncomputable def SD(a b c d e:List Nat):List V:=fW a++(fW b++(fW c++(fW d++(fW e++[]))))
theorem Au{P:List Nat→Prop}{L:List Nat}(h:(∃a b c,L=[a,b,c])∨(∃b c,L=[b,c])∨∃c,L=[c])(p1:∀a b c,P [a,b,c])(p2:∀b c,P [b,c])(p3:∀c,P [c]):P L:=by
 rcases h with⟨a,b,c,rfl⟩|⟨b,c,rfl⟩|⟨c,rfl⟩
 ·exact p1 a b c
 ·exact p2 b c
 ·exact p3 c
noncomputable def RD(k:Nat)(N:Nat→Nat)(L1 L3 L0 L2 L4:List Nat):Prop:=
 ak (CC (k+1)) 96 (gb N (kv "rows" (.lst [sub L0,sub L1,sub L2,sub L3,sub L4]))) (br (sN ((eZ.drop 1).drop 1) 0)) []=some (.loc 0,[.iter (SD L0 L1 L2 L3 L4)])
theorem Uv(k:Nat)(N:Nat→Nat)(L0 L2 L4:List Nat)(a1 b1 c1 a3 b3 c3:Nat)
 (h0:(∃a b c,L0=[a,b,c])∨(∃b c,L0=[b,c])∨∃c,L0=[c]) (h2:(∃a b c,L2=[a,b,c])∨(∃b c,L2=[b,c])∨∃c,L2=[c]) (h4:(∃a b c,L4=[a,b,c])∨(∃b c,L4=[b,c])∨∃c,L4=[c]) :
 RD k N [a1,b1,c1] [a3,b3,c3] L0 L2 L4:=by
 refine Au (P:=fun L=>RD k N [a1,b1,c1] [a3,b3,c3] L L2 L4) h0 ?_ ?_ ?_<;>intros<;>refine Au (P:=fun L=>RD k N [a1,b1,c1] [a3,b3,c3] _ L L4) h2 ?_ ?_ ?_<;>intros<;>refine Au (P:=fun L=>RD k N [a1,b1,c1] [a3,b3,c3] _ _ L) h4 ?_ ?_ ?_<;>intros<;>unfold RD<;>kernel_rfl
theorem xP(i n:Nat):(∃a b c,bM i n=[a,b,c])∨(∃b c,bM i n=[b,c])∨∃c,bM i n=[c]:=by
 unfold bM
 split
 ·exact .inl ⟨_,_,_,rfl⟩
 ·split
  ·exact .inr (.inl ⟨_,_,rfl⟩)
  ·exact .inr (.inr ⟨_,rfl⟩)
theorem Uu(k:Nat)(N:Nat→Nat):ak (CC (k+1)) 96 (gb N (kv "rows" (.lst ((List.range 5).map fun i=>sub (bM i (N i)))))) (br (sN ((eZ.drop 1).drop 1) 0)) []=some (.loc 0,[.iter (qi ((List.range 5).map fun i=>bM i (N i)))]):=by
 have h:=Uv k N (bM 0 (N 0)) (bM 2 (N 2)) (bM 4 (N 4)) (N 1/4096) (N 1/64%64) (N 1%64) (N 3/4096) (N 3/64%64) (N 3%64) (xP _ _) (xP _ _) (xP _ _);have e1:bM 1 (N 1)=[N 1/4096,N 1/64%64,N 1%64]:=by unfold bM;rw [if_pos (.inl rfl)];rfl
 have e3:bM 3 (N 3)=[N 3/4096,N 3/64%64,N 3%64]:=by unfold bM;rw [if_pos (.inl rfl)];rfl
 rw [←e1,←e3] at h;exact h
theorem CE(n:Nat):(n/4096*64+n/64%64)*64+n%64=n:=by
 have h2:64*(n/4096)+n/64%64=n/64:=by have:=div_add_mod (n/64) 64;rwa [Nat.div_div_eq_div_mul] at this
 rw [mul_comm (n/4096) 64,h2,mul_comm,div_add_mod]
theorem sf(n:Nat):n%64<64:=mod_lt _ (by decide)
theorem CD(i n:Nat)(hn:n<262144):∃d ds,bM i n=d::ds∧d<64∧(∀x∈ds,x<64)∧ds.length≤3∧valN d ds=n:=by
 unfold bM
 by_cases h:i%2=1∨0<n/4096
 ·rw [if_pos h];exact⟨n/4096,[n/64%64,n%64],rfl,Nat.div_lt_of_lt_mul hn,forall_mem_cons.mpr ⟨sf _,forall_mem_cons.mpr ⟨sf _,fun x hx=>nomatch hx⟩⟩,(show (2:Nat)≤3 by decide),CE n⟩
 ·rw [if_neg h];have h0:n/4096=0:=Nat.eq_zero_of_not_pos fun z=>h (.inr z);have h1:=CE n;rw [h0,Nat.zero_mul,zero_add] at h1
  by_cases h2:0<n/64%64
  ·rw [if_pos h2];exact⟨n/64%64,[n%64],rfl,sf _,forall_mem_cons.mpr ⟨sf _,fun x hx=>nomatch hx⟩,(show (1:Nat)≤3 by decide),h1⟩
  ·rw [if_neg h2];rw [Nat.eq_zero_of_not_pos h2,Nat.zero_mul,zero_add] at h1;exact⟨n%64,[],rfl,sf _,fun x hx=>(nomatch hx),(show (0:Nat)≤3 by decide),h1⟩
noncomputable def mu:List Nat→Nat
 | []=>0
 | d::ds=>valN d ds
theorem sY(i n:Nat)(hn:n<262144):mu (bM i n)=n:=by
 refine lC (CD i n hn) ?_;intro d ds e _ _ _ h;rw [e];exact h
theorem Ux(k:Nat)(N:Nat→Nat)(hN:∀i,N i<262144):ak (CC (k+2)) 95 (gb N (kv "rows" (.lst ((List.range 5).map fun i=>sub (bM i (N i))))++kv "hand" (.loc 0))) (br (sN (((eZ.drop 1).drop 1).drop 1) 0)) [.iter (qi ((List.range 5).map fun i=>bM i (N i)))]=some (wv N,[.iter []]):=by
 have hl:∀x∈(List.range 5).map (fun i=>bM i (N i)),∃i,x=bM i (N i):=by
  intro x hx;refine aj (mem_map.mp hx) ?_;rintro i _ rfl;exact⟨i,rfl⟩
 have:=Ul (C:=CC (k+2)) (n:=94) (me:=gb N (kv "rows" (.lst ((List.range 5).map fun i=>sub (bM i (N i))))++kv "hand" (.loc 0))) (e:=br (sN (((eZ.drop 1).drop 1).drop 1) 0)) (σ:=[.iter (qi ((List.range 5).map fun i=>bM i (N i)))]) (l:=(List.range 5).map fun i=>bM i (N i)) (g:=sub) (fun x=>nat (mu x))
  (fun a=>cE (br (sN (((eZ.drop 1).drop 1).drop 1) 0)) (gb N (kv "rows" (.lst ((List.range 5).map fun i=>sub (bM i (N i))))++kv "hand" (.loc 0))) (sub a)) (fun l=>[.iter (qi l)]) (by kernel_rfl!) (by kernel_rfl!)
  (g8 (by kernel_rfl!) (by kernel_rfl!) (by simp) (by
   rw [eX];intro v hv;refine aj (mem_map.mp hv) ?_;rintro i _ rfl;exact cW _)) (fun a Z=>tG (by kernel_rfl!) rfl (cW a)) (fun a Z b Z=>by
   rw [tG (by kernel_rfl!) rfl (cW a)]
   unfold cE;rw [GX]) (fun done a rest hL=>by
   refine aA (hl a (by rw [hL];simp)) ?_;rintro i rfl
   refine lC (CD i (N i) (hN i)) ?_;intro d ds e h1 h2 h3 h4;rw [e];exact cN (by kernel_rfl!) (fv:=.base 147) (vs:=[.loc 0]) (σ':=[.iter (qi ((d::ds)::rest))]) (by kernel_rfl!) (by kernel_rfl!) (Wf k d ds h1 h2 h3 (qi rest))) (fun Z Z=>rfl) (by rw [length_map];decide)
 rw [this];have e:((List.range 5).map fun i=>bM i (N i)).map (fun x=>nat (mu x))=[nat (N 0),nat (N 1),nat (N 2),nat (N 3),nat (N 4)]:=by
  show [nat (mu (bM 0 (N 0))),nat (mu (bM 1 (N 1))),nat (mu (bM 2 (N 2))),nat (mu (bM 3 (N 3))),nat (mu (bM 4 (N 4)))]=_;rw [sY _ _ (hN 0),sY _ _ (hN 1),sY _ _ (hN 2),sY _ _ (hN 3),sY _ _ (hN 4)]
 rw [e];rfl
theorem UB(k:Nat)(N:Nat→Nat)(hN:∀i,N i<262144):aU (CC (k+2)) 100 (aJ sJ [(("numbers":Str),wv N)]) eZ []=some (.next,gb N (kv "rows" (.lst ((List.range 5).map fun i=>sub (bM i (N i))))++(kv "hand" (.loc 0)++kv "told" (wv N))),[.iter []]):=by
 have hp1:V.plain (.lst ([N 0,N 1,N 2,N 3,N 4].map fun n=>sub (dK n)))=true:=by
  show V.bD _=true;rw [eX];intro v hv;refine aj (mem_map.mp hv) ?_;rintro i _ rfl;exact cW _
 have hp2:V.plain (.lst ((List.range 5).map fun i=>sub (bM i (N i))))=true:=by
  show V.bD _=true;rw [eX];intro v hv;refine aj (mem_map.mp hv) ?_;rintro i _ rfl;exact cW _
 refine aF (by kernel_rfl!) (az:=gb N (kv "rows" (.lst ([N 0,N 1,N 2,N 3,N 4].map fun n=>sub (dK n))))) (σ':=[]) (dP (by kernel_rfl!) hp1 (Uw (k+1) N []) (by kernel_rfl!)) ?_
 refine aF (by kernel_rfl!) (az:=gb N (kv "rows" (.lst ((List.range 5).map fun i=>sub (bM i (N i)))))) (σ':=[]) (dP (by kernel_rfl!) hp2 (Ut (k+1) N []) (by kernel_rfl!)) ?_
 refine aF (by kernel_rfl!) (az:=gb N (kv "rows" (.lst ((List.range 5).map fun i=>sub (bM i (N i))))++kv "hand" (.loc 0))) (dO (by kernel_rfl!) (Uu (k+1) N) (by kernel_rfl!)) ?_
 exact aF (by kernel_rfl!) (dO (by kernel_rfl!) (Ux k N hN) (by kernel_rfl!)) (bC (by kernel_rfl!))
theorem TQ(hG:∀N:Nat→Nat,Good (cU N))(ns:List Int)(hn:ns.length≤63):wJ 10 ns:=by
 have hN:∀i,fC ns i<262144:=Sl ns;refine fq (Rb 5 (gG ns) (.lst ((eO ns).map V.int)) (iG ns) (fC ns) (hG _)) ?_;intro jq σ₃ h3;exact⟨100,_,wv (fC ns),_,_,0,[nat (fC ns 0),nat (fC ns 1),nat (fC ns 2),nat (fC ns 3),nat (fC ns 4)],jq,σ₃,Ua 9 ns hn,by kernel_rfl!,rfl,UB 8 (fC ns) hN,by kernel_rfl!,rfl,rfl,by kernel_rfl!,rfl,h3⟩
noncomputable def sel(W:Nat→Nat)(p:Nat→Bool)(i:Nat):Nat:=if p i then W i else 0
noncomputable def xv(W:Nat→Nat)(p:Nat→Bool):Nat:=((((0^^^sel W p 0)^^^sel W p 1)^^^sel W p 2)^^^sel W p 3)^^^sel W p 4
theorem MZ(W:Nat→Nat)(p:Nat→Bool):∀(l:List Nat) (x:Nat),(l.filter p).foldl (fun a j=>a^^^W j) x=l.foldl (fun a j=>a^^^sel W p j) x:=by
 intro l
 induction l with
 | nil=>intro x;exact rfl
 | cons a r rc=>
  intro x;cases h:p a with
  | true=>rw [List.filter_cons_of_pos h,foldl_cons,foldl_cons,rc];unfold sel;rw [if_pos h]
  | false=>
   rw [List.filter_cons_of_neg (by rw [h];decide),foldl_cons,rc]
   unfold sel;rw [if_neg (by rw [h];decide),xor_zero]
theorem iN(W:Nat→Nat)(p:Nat→Bool):cH W (hs p)=xv W p:=MZ W p (List.range 5) 0
noncomputable def px(p q:Nat→Bool)(i:Nat):Bool:=p i ^^ q i
theorem UT(W:Nat→Nat)(p q:Nat→Bool)(i:Nat):sel W (px p q) i=sel W p i^^^sel W q i:=by
 unfold sel px;cases p i<;>cases q i<;>simp
theorem WE(a b c d e f g h i j:Nat):((((0^^^(a^^^b))^^^(c^^^d))^^^(e^^^f))^^^(g^^^h))^^^(i^^^j)=(((((0^^^a)^^^c)^^^e)^^^g)^^^i)^^^(((((0^^^b)^^^d)^^^f)^^^h)^^^j):=by
 simp only [zero_xor]
 ac_rfl
theorem oF(W:Nat→Nat)(p q:Nat→Bool):xv W (px p q)=xv W p^^^xv W q:=by
 unfold xv;simp only [UT];exact WE ..
theorem qE{W:Nat→Nat}{p q:Nat→Bool}(h:∀i<5,p i=q i):xv W p=xv W q:=by
 unfold xv sel;rw [h 0 (by decide),h 1 (by decide),h 2 (by decide),h 3 (by decide),h 4 (by decide)]
theorem mw(W:Nat→Nat){p:Nat→Bool}(h:∀i<5,p i=false):xv W p=0:=by
 simp [xv,sel,h 0 (by decide),h 1 (by decide),h 2 (by decide),h 3 (by decide),h 4 (by decide)]
theorem HS(W:Nat→Nat):∀h<5,xv W (fun i=>i==h)=W h:=by
 refine b8 ?_ ?_ ?_ ?_ ?_<;>simp [xv,sel]
theorem HR{W:Nat→Nat}(hW:∀i<5,W i<16)(p:Nat→Bool):xv W p<16:=by
 have h:∀i<5,sel W p i<2^4:=fun i hi=>by
  unfold sel
  split
  ·exact hW i hi
  ·decide
 unfold xv;exact xor_lt_two_pow (xor_lt_two_pow (xor_lt_two_pow (xor_lt_two_pow (xor_lt_two_pow (by decide) (h 0 (by decide))) (h 1 (by decide))) (h 2 (by decide))) (h 3 (by decide))) (h 4 (by decide))
theorem HQ(W:Nat→Nat)(a b:Nat):xv W (a^^^b).testBit=xv W a.testBit^^^xv W b.testBit:=by
 rw [←oF];refine qE fun i Z=>?_;unfold px;rw [Nat.testBit_xor]
theorem A5(W:Nat→Nat)(h:Nat)(hh:h<5):xv W (2^h).testBit=W h:=by
 rw [←HS W h hh];refine qE fun i Z=>?_;rw [Nat.testBit_two_pow]
 by_cases e:h=i
 ·subst e;simp
 ·have e2:(i==h)=false:=by simpa using fun x=>e x.symm
  rw [e2];simp [e]
noncomputable def pD(b:List (Nat×Nat))(t:Nat):Prop:=∃c∈b,t≤c.1∧c.1<2*t
noncomputable def ji(u x:Nat):Bool:=decide (u≤x)&&decide (x<2*u)
noncomputable def f1(t r c:Nat):Bool:=!(ji t c&&(r&&& t != 0))||(((r^^^c)&&& t==0)&&decide (r^^^c<16)&&[8,4,2,1].all fun u=>!decide (t<u)||((r^^^c)&&& u==r&&& u))
theorem Mk:∀t∈[8,4,2,1],∀r<16,∀c<16,f1 t r c=true:=by decide+kernel
theorem Mj:∀t∈[8,4,2,1],∀r<16,∀c<16,t≤c→c<2*t→r&&& t≠0→(r^^^c)&&& t=0∧r^^^c<16∧∀u∈[8,4,2,1],t<u→(r^^^c)&&& u=r&&& u:=by
 intro t ht r hr c hc h1 h2 h3;have h:=Mk t ht r hr c hc;unfold f1 ji at h;rw [decide_eq_true h1,decide_eq_true h2,show (r&&& t != 0)=true by simpa using h3] at h
 simp only [Bool.and_self,Bool.not_true,Bool.false_or,and_eq_true,beq_iff_eq,decide_eq_true_eq,all_eq_true,or_eq_true,not_eq_true',decide_eq_false_iff_not] at h;refine⟨h.1.1,h.1.2,fun u hu htu=>?_⟩;rcases h.2 u hu with h|h
 ·exact absurd htu h
 ·exact h
noncomputable def f2(t x y:Nat):Bool:=!(ji t x&&(y&&& t==0)&&(y != 0))||((x^^^y != 0)&&(ji t (x^^^y)||[8,4,2,1].any fun u=>ji u y&&ji u (x^^^y)))
theorem Mm:∀t∈[8,4,2,1],∀x<16,∀y<16,f2 t x y=true:=by decide+kernel
theorem Ml{t x y:Nat}(ht:t∈[8,4,2,1])(hx:x<16)(hy:y<16)(h1:t≤x)(h2:x<2*t)(h3:y&&& t=0)(h4:y≠0):x^^^y≠0∧((t≤x^^^y∧x^^^y<2*t)∨∃u,u∈[8,4,2,1]∧u≤y∧y<2*u∧u≤x^^^y∧x^^^y<2*u):=by
 have h:=Mm t ht x hx y hy;unfold f2 at h;rw [show ji t x=true by unfold ji;rw [decide_eq_true h1,decide_eq_true h2];rfl,show (y&&& t==0)=true by simpa using h3,show (y != 0)=true by simpa using h4] at h
 simp only [Bool.and_self,Bool.not_true,Bool.false_or] at h;rw [and_eq_true] at h;refine au h ?_;clear h;intro g1 g2;have g1:x^^^y≠0:=by simpa using g1
 refine⟨g1,?_⟩;rw [or_eq_true,any_eq_true] at g2;simp only [ji,and_eq_true,decide_eq_true_eq] at g2;rcases g2 with g2|⟨u,hu,g2,g3⟩
 ·exact .inl g2
 ·exact .inr ⟨u,hu,g2.1,g2.2,g3.1,g3.2⟩
theorem Mp:∀t∈[8,4,2,1],∀x<16,t≤x→x<2*t→x&&& t≠0:=by decide+kernel
theorem Mr:∀x<16,x≠0→([8,4,2,1].any fun u=>ji u x)=true:=by decide+kernel
theorem Mq{x:Nat}(hx:x<16)(h:x≠0):∃t,t∈[8,4,2,1]∧t≤x∧x<2*t:=by
 have:=Mr x hx h;rw [any_eq_true] at this;simpa only [ji,and_eq_true,decide_eq_true_eq] using this
set_option tactic.hygienic true in
theorem sP{b:List (Nat×Nat)}(hs':gq b)(hb:∀c∈b,c.1<16){t:Nat}(ht:t∈[8,4,2,1])(e:Nat×Nat)(he:e.1<16) :
 (cj b e t).1<16∧(∀u∈[8,4,2,1],t<u→(cj b e t).1&&& u=e.1&&& u)∧(pD b t→(cj b e t).1&&& t=0)∧(cj b e t=e∨∃c∈b,cj b e t=(e.1^^^c.1,e.2^^^c.2)):=by
 unfold cj;cases hc:(e.1&&& t != 0) with
 | false=>
  rw [if_neg (by decide)]
  exact⟨he,fun Z Z Z=>rfl,fun Z=>by simpa using hc,.inl rfl⟩
 | true=>
  rw [if_pos rfl];have hne:e.1&&& t≠0:=by simpa using hc
  split
  ·rename_i c hget;have hm:=mem_of_getElem? hget;have htc:t≤c.1:=by
    have:=mt (sO hs' (t:=t) hget).mpr (lt_irrefl _);lia
   split
   ·rename_i h2;refine bO (Mj t ht e.1 he c.1 (hb c hm) htc h2 hne) ?_;intro f1 f2 f3;exact⟨f2,f3,fun Z=>f1,.inr ⟨c,hm,rfl⟩⟩
   ·rename_i h2;refine⟨he,fun Z Z Z=>rfl,fun hT=>?_,.inl rfl⟩;exfalso;refine bQ hT ?_;clear hT;intro d hd d1 d2;refine aA (mem_iff_getElem?.mp hd) ?_;intro i hi;have hge:i6 b t≤i:=by
     have:=mt (sO hs' (t:=t) hi).mp (by lia)
     lia
    have:c.1≤d.1:=by
     by_cases e1:i6 b t=i
     ·rw [e1,hi] at hget;have:=Option.some.inj hget;rw [this];exact le_refl _
     ·have hp:b.Pairwise (fun a c=>a.1≤c.1):=hs';refine aA (List.getElem?_eq_some_iff.mp hget) ?_;intro l1 g1;refine aA (List.getElem?_eq_some_iff.mp hi) ?_;intro l2 g2;have:=List.pairwise_iff_getElem.mp hp (i6 b t) i l1 l2 (by lia)
      rw [g1,g2] at this;exact this
    lia
  ·rename_i hget;refine⟨he,fun Z Z Z=>rfl,fun hT=>?_,.inl rfl⟩;exfalso;refine bQ hT ?_;clear hT;intro d hd d1 d2;refine aA (mem_iff_getElem?.mp hd) ?_;intro i hi;have hge:i6 b t≤i:=by
    have:=mt (sO hs' (t:=t) hi).mp (by lia)
    lia
   have:=(List.getElem?_eq_some_iff.mp hi).1;have:=List.getElem?_eq_none_iff.mp hget;lia
noncomputable def Within(I:Nat→Bool)(p:Nat→Bool):Prop:=∀h,p h=true→I h=true
noncomputable def iW(I:Nat→Bool)(p:Nat→Bool):Prop:=∀h<5,p h=true→I h=true
noncomputable def qx(p:Nat→Bool):Prop:=∃h,h<5∧p h=true
noncomputable def Indep(W:Nat→Nat)(I:Nat→Bool):Prop:=∀p:Nat→Bool,iW I p→qx p→xv W p≠0
theorem F3{p:Nat→Bool}(h:¬qx p):∀i<5,p i=false:=by
 intro i hi;cases hc:p i with
 | false=>rfl
 | true=>exact absurd ⟨i,hi,hc⟩ h
structure k7(W:Nat→Nat)(b:List (Nat×Nat))(I:Nat→Bool):Prop where
 qy:gq b
 row:∀c∈b,0<c.1∧c.1<16∧xv W c.2.testBit=c.1∧Within I c.2.testBit
 top:∀p:Nat→Bool,iW I p→qx p→xv W p≠0∧∃t,t∈[8,4,2,1]∧t≤xv W p∧xv W p<2*t∧pD b t
 low:∀h,I h=true→h<5
structure mK(W:Nat→Nat)(I:Nat→Bool)(e e':Nat×Nat):Prop where
 sum:xv W e'.2.testBit^^^e'.1=xv W e.2.testBit^^^e.1
 bits:∀h,I h=false→e'.2.testBit h=e.2.testBit h
theorem mK.trans{W:Nat→Nat}{I:Nat→Bool}{a b c:Nat×Nat}(h1:mK W I a b)(h2:mK W I b c):mK W I a c:=
 ⟨h2.sum.trans h1.sum,fun h hh=>(h2.bits h hh).trans (h1.bits h hh)⟩
theorem WH{a b:Nat}(h:a^^^b=0):a=b:=by
 have:a=(a^^^b)^^^b:=by rw [Nat.xor_assoc,xor_self,xor_zero]
 rw [this,h,zero_xor]
theorem WG(a b c:Nat):(a^^^b)^^^(c^^^b)=a^^^c:=by
 have:(a^^^b)^^^(c^^^b)=(a^^^c)^^^(b^^^b):=by ac_rfl
 rw [this,xor_self,xor_zero]
section
variable{W:Nat→Nat}{b:List (Nat×Nat)}{I:Nat→Bool}
theorem vV(hb:k7 W b I){t:Nat}(ht:t∈[8,4,2,1])(e:Nat×Nat)(he:e.1<16):mK W I e (cj b e t):=by
 refine gQ (sP hb.qy (fun c hc=>(hb.row c hc).2.1) ht e he) ?_;intro _ _ _ h;rcases h with h|⟨c,hc,h⟩
 ·rw [h];exact⟨rfl,fun Z Z=>rfl⟩
 ·rw [h];refine gQ (hb.row c hc) ?_;intro _ _ h3 h4;refine⟨?_,fun j hj=>?_⟩
  ·show xv W (e.2^^^c.2).testBit^^^(e.1^^^c.1)=_;rw [HQ,h3,WG]
  ·show (e.2^^^c.2).testBit j=_;rw [Nat.testBit_xor];cases hc2:c.2.testBit j with
   | false=>simp
   | true=>have:=h4 j hc2;rw [hj] at this;cases this
theorem GH(hb:k7 W b I)(e:Nat×Nat)(he:e.1<16):(cT b e).1<16∧mK W I e (cT b e)∧∀t∈[8,4,2,1],pD b t→(cT b e).1&&& t=0:=by
 have uz:∀c∈b,c.1<16:=fun c hc=>(hb.row c hc).2.1;have m8:(8:Nat)∈[8,4,2,1]:=by decide
 have m4:(4:Nat)∈[8,4,2,1]:=by decide
 have m2:(2:Nat)∈[8,4,2,1]:=by decide
 have m1:(1:Nat)∈[8,4,2,1]:=by decide
 show (cj b (cj b (cj b (cj b e 8) 4) 2) 1).1<16∧mK W I e (cj b (cj b (cj b (cj b e 8) 4) 2) 1)∧∀t∈[8,4,2,1],pD b t→(cj b (cj b (cj b (cj b e 8) 4) 2) 1).1&&& t=0;refine gQ (sP hb.qy uz m8 e he) ?_;intro a1 a2 a3 _;have qa:=vV hb m8 e he;generalize cj b e 8=ea at a1 a2 a3 qa;refine gQ (sP hb.qy uz m4 ea a1) ?_;intro b1 b2 b3 _;have qb:=vV hb m4 ea a1;generalize cj b ea 4=eb at b1 b2 b3 qb;refine gQ (sP hb.qy uz m2 eb b1) ?_;intro c1 c2 c3 _;have qc:=vV hb m2 eb b1;generalize cj b eb 2=ec at c1 c2 c3 qc;refine gQ (sP hb.qy uz m1 ec c1) ?_;intro d1 d2 d3 _;have qd:=vV hb m1 ec c1;generalize cj b ec 1=ed at d1 d2 d3 qd;refine⟨d1,((qa.trans qb).trans qc).trans qd,fun t ht hT=>?_⟩;simp only [mem_cons,not_mem_nil,or_false] at ht;rcases ht with rfl|rfl|rfl|rfl
 ·rw [d2 8 m8 (by decide),c2 8 m8 (by decide),b2 8 m8 (by decide),a3 hT]
 ·rw [d2 4 m4 (by decide),c2 4 m4 (by decide),b3 hT]
 ·rw [d2 2 m2 (by decide),c3 hT]
 ·exact d3 hT
theorem UL(hW:∀i<5,W i<16)(hb:k7 W b I)(e0:Nat×Nat)(h:Nat)(hh:h<5)(hI:I h=false) :
 ∃I',k7 W (dz (b,e0) (W h,2^h)).1 I'∧(∀j,I j=true→I' j=true)∧(∀j,I' j=true→I j=true∨j=h)∧(∃p,iW I' p∧xv W p=W h)∧(∀pk,Indep W pk→(∀j,I j=true→pk j=true)→pk h=true→I' h=true):=by
 refine bO (GH hb (W h,2^h) (hW h hh)) ?_;intro r1 r2 r3;show ∃I',k7 W (if 0<(cT b (W h,2^h)).1 then jj b (cT b (W h,2^h)) else b) I'∧_
 generalize cT b (W h,2^h)=e at r1 r2 r3;have hs:xv W e.2.testBit=e.1:=by
  have:=r2.sum;simp only [A5 W h hh,xor_self] at this;exact WH this
 have DZ:e.2.testBit h=true:=by
  rw [r2.bits h hI];show (2^h).testBit h=true;rw [Nat.testBit_two_pow];simp
 have yT:∀j,e.2.testBit j=true→I j=true∨j=h:=fun j hj=>by
  cases hc:I j with
  | true=>exact .inl rfl
  | false=>
   have:=r2.bits j hc;rw [hj] at this
   right
   have h2:(2^h).testBit j=true:=this.symm;rw [Nat.testBit_two_pow] at h2;have:h=j:=by simpa using h2
   exact this.symm
 by_cases hz:0<e.1
 ·rw [if_pos hz];refine⟨fun j=>I j||j==h,⟨ED hb.qy,?_,?_,?_⟩,fun j hj=>by simp [hj],fun j hj=>by simpa using hj,⟨fun i=>i==h,fun j Z hj=>by simp only [hj,Bool.or_true],HS W h hh⟩,fun Z Z Z Z=>by simp⟩
  ·intro c hc;rcases uP.mp hc with rfl|hc
   ·refine⟨hz,r1,hs,fun j hj=>?_⟩;rcases yT j hj with h1|h1<;>simp [h1]
   ·refine gQ (hb.row c hc) ?_;intro g1 g2 g3 g4;exact⟨g1,g2,g3,fun j hj=>by simp [g4 j hj]⟩
  ·intro p hp pJ;have hmono:∀t,pD b t→pD (jj b e) t:=fun t ⟨c,hc,h1⟩=>⟨c,uP.mpr (.inr hc),h1⟩;cases kq:p h with
   | false=>
    have hw:iW I p:=fun j hj eg=>by
     have:=hp j hj eg
     by_cases pe:j=h
     ·subst pe;rw [kq] at eg;cases eg
     ·have e2:(j==h)=false:=by simpa using pe
      simpa [e2] using this
    obtain⟨g1,t,g2,g3,g4,g5⟩:=hb.top p hw pJ;exact⟨g1,t,g2,g3,g4,hmono t g5⟩
   | true=>
    let q:=px p e.2.testBit
    have OE:iW I q:=fun j hj yW=>by
     by_cases pe:j=h
     ·subst pe;have:q j=false:=by show (p j ^^ e.2.testBit j)=false;rw [kq,DZ];rfl
      rw [this] at yW;cases yW
     ·cases eg:p j with
      | true=>
       have:=hp j hj eg;have e2:(j==h)=false:=by simpa using pe
       simpa [e2] using this
      | false=>
       have:e.2.testBit j=true:=by
        have h0:(p j ^^ e.2.testBit j)=true:=yW;rw [eg] at h0;simpa using h0
       rcases yT j this with h1|h1
       ·exact h1
       ·exact absurd h1 pe
    have OZ:xv W q=xv W p^^^e.1:=by rw [←hs];exact oF W p _
    have El:xv W p=xv W q^^^e.1:=by
     rw [OZ,Nat.xor_assoc,xor_self,xor_zero]
    by_cases Ef:qx q
    ·obtain⟨g1,t,g2,g3,g4,g5⟩:=hb.top q OE Ef;have h3:=r3 t g2 g5;refine au (Ml g2 (HR hW q) r1 g3 g4 h3 (by lia)) ?_;intro k1 k2
     rw [El];refine⟨k1,?_⟩;rcases k2 with⟨k2,k3⟩|⟨u,u1,u2,u3,u4,u5⟩
     ·exact⟨t,g2,k2,k3,hmono t g5⟩
     ·exact⟨u,u1,u4,u5,e,uP.mpr (.inl rfl),u2,u3⟩
    ·have OW:=mw W (F3 Ef);rw [El,OW,zero_xor];refine bQ (Mq r1 (by lia)) ?_;intro t t1 t2 t3
     exact⟨by lia,t,t1,t2,t3,e,uP.mpr (.inl rfl),t2,t3⟩
  ·intro j hj;rcases (by simpa using hj:I j=true∨j=h) with h1|h1
   ·exact hb.low j h1
   ·lia
 ·rw [if_neg hz];have yD:e.1=0:=by lia
  rw [yD] at hs;refine⟨I,hb,fun Z h=>h,fun j hj=>.inl hj,⟨px e.2.testBit (2^h).testBit,?_,?_⟩,?_⟩
  ·intro j hj eg;cases hc:I j with
   | true=>rfl
   | false=>have h1:e.2.testBit j=(2^h).testBit j:=r2.bits j hc;have h2:(e.2.testBit j ^^ (2^h).testBit j)=true:=eg;rw [h1] at h2;simp at h2
  ·rw [oF,hs,A5 W h hh,zero_xor]
  ·intro pk hpk uB kq;exfalso;refine hpk e.2.testBit (fun j hj hb'=>?_) ⟨h,hh,DZ⟩ hs;rcases yT j hb' with h1|h1
   ·exact uB j h1
   ·rw [h1];exact kq
end
section
variable{W:Nat→Nat}
theorem Wx{I J p:Nat→Bool}(h:∀j,I j=true→J j=true)(hp:iW I p):iW J p:=fun j hj eg=>h j (hp j hj eg)
theorem DA(hW:∀i<5,W i<16):∀(l:List Nat) (s:List (Nat×Nat)×(Nat×Nat)) (I:Nat→Bool),l.Nodup→k7 W s.1 I→(∀h∈l,h<5∧I h=false)→
 ∃I',k7 W ((l.map fun h=>(W h,2^h)).foldl dz s).1 I'∧(∀j,I j=true→I' j=true)∧(∀j,I' j=true→I j=true∨j∈l)∧(∀h∈l,∃p,iW I' p∧xv W p=W h)∧
  (∀pk,Indep W pk→(∀j,I j=true→pk j=true)→(∀h∈l,pk h=true)→∀h∈l,I' h=true):=by
 intro l
 induction l with
 | nil=>intro s I _ hb _;exact⟨I,hb,fun Z h=>h,fun j h=>.inl h,fun h hh=>(by cases hh),fun Z Z Z Z h hh=>(by cases hh)⟩
 | cons h l rc=>
  intro s I hn hb hl;rw [nodup_cons] at hn;refine au (hl h mem_cons_self) ?_;intro hh hI;refine qW (UL (e0:=s.2) hW hb h hh hI) ?_;intro I1 b1 m1 m2 s1 k1;obtain⟨I2,b2,n1,n2,s2,k2⟩:=rc (dz s (W h,2^h)) I1 hn.2 b1 (fun j hj=>by
   refine au (hl j (mem_cons_of_mem _ hj)) ?_;intro g1 g2;refine⟨g1,?_⟩;cases hc:I1 j with
   | false=>rfl
   | true=>
    rcases m2 j hc with h1|h1
    ·rw [g2] at h1;cases h1
    ·exact absurd (h1▸hj) hn.1)
  refine⟨I2,b2,fun j hj=>n1 j (m1 j hj),fun j hj=>?_,fun j hj=>?_,fun pk hp uB Ec j hj=>?_⟩
  ·rcases n2 j hj with h1|h1
   ·rcases m2 j h1 with h2|h2
    ·exact .inl h2
    ·exact .inr (by rw [h2];exact mem_cons_self)
   ·exact .inr (mem_cons_of_mem _ h1)
  ·rcases mem_cons.mp hj with rfl|hj
   ·refine aj s1 ?_;clear s1;intro p p1 p2;exact⟨p,Wx n1 p1,p2⟩
   ·exact s2 j hj
  ·have kq:=Ec h mem_cons_self;have Nq:∀j,I1 j=true→pk j=true:=fun j hj=>by
    rcases m2 j hj with h1|h1
    ·exact uB j h1
    ·rw [h1];exact kq
   rcases mem_cons.mp hj with rfl|hj
   ·exact n1 j (k1 pk hp uB kq)
   ·exact k2 pk hp Nq (fun x hx=>Ec x (mem_cons_of_mem _ hx)) j hj
theorem Vd{I:Nat→Bool}:∀(l:List Nat) (x:Nat),(∃p,iW I p∧xv W p=x)→(∀h∈l,∃p,iW I p∧xv W p=W h)→∃p,iW I p∧xv W p=l.foldl (fun a j=>a^^^W j) x:=by
 intro l
 induction l with
 | nil=>intro x h _;exact h
 | cons a l rc=>
  rintro x ⟨p,p1,p2⟩ hl;refine aj (hl a mem_cons_self) ?_;intro q q1 q2;refine rc (x^^^W a) ⟨px p q,fun j hj hpq=>?_,?_⟩ fun h hh=>hl h (mem_cons_of_mem _ hh)
  ·unfold px at hpq;cases hc:p j with
   | true=>exact p1 j hj hc
   | false=>rw [hc] at hpq;exact q1 j hj (by simpa using hpq)
  ·rw [oF,p2,q2]
theorem Ru(hW:∀i<5,W i<16){pk hi:Nat→Bool}(hpk:Indep W pk)(hd:∀h,pk h=true→hi h=false) :
 ∃I,Indep W I∧(∀h<5,pk h=true→I h=true)∧(∀h,I h=true→h<5∧(pk h=true∨hi h=true))∧
  (∀h,(gk W (hs pk++hs hi) (hs hi)).2.2.testBit h=true→I h=true)∧xv W (gk W (hs pk++hs hi) (hs hi)).2.2.testBit=xv W hi:=by
 have h0:k7 W [] (fun Z=>false):=⟨Pairwise.nil,fun c hc=>(by cases hc),fun p hp yY=>(by
  refine aj yY ?_;clear yY;intro h hh fz;have h2:=hp h hh fz;cases h2),fun h hh=>(by cases hh)⟩
 refine qW (DA hW (hs pk) ([],(0,0)) (fun Z=>false) (uN pk) h0 (fun h hh=>⟨jf hh,rfl⟩)) ?_;intro I1 b1 _ n1 s1 k1;obtain⟨I2,b2,m2,n2,s2,_⟩:=DA hW (hs hi) (((hs pk).map fun h=>(W h,2^h)).foldl dz ([],(0,0))) I1 (uN hi) b1 (fun h hh=>by
  refine⟨jf hh,?_⟩;cases hc:I1 h with
  | false=>rfl
  | true=>
   rcases n1 h hc with h1|h1
   ·cases h1
   ·have:=hd h (jN.mp h1).2;rw [(jN.mp hh).2] at this;cases this)
 have hk:=k1 pk hpk (fun Z h=>(by cases h)) (fun h hh=>(jN.mp hh).2)
 refine⟨I2,?_,?_,?_,?_⟩
 ·intro p hp pJ;exact (b2.top p hp pJ).1
 ·intro h hh hp;exact m2 h (hk h (jN.mpr ⟨hh,hp⟩))
 ·intro h hh;refine⟨b2.low h hh,?_⟩;rcases n2 h hh with h1|h1
  ·rcases n1 h h1 with h2|h2
   ·cases h2
   ·exact .inl (jN.mp h2).2
  ·exact .inr (jN.mp h1).2
 ·have N6:gk W (hs pk++hs hi) (hs hi)=dz ((((hs hi).map fun h=>(W h,2^h))).foldl dz (((hs pk).map fun h=>(W h,2^h)).foldl dz ([],(0,0)))) (cH W (hs hi),0):=by
   unfold gk kT;rw [map_append,append_assoc,List.foldl_append,List.foldl_append];rfl
  have hX:cH W (hs hi)<16:=by rw [iN];exact HR hW hi
  rw [N6];generalize (((hs hi).map fun h=>(W h,2^h))).foldl dz (((hs pk).map fun h=>(W h,2^h)).foldl dz ([],(0,0)))=s at b2;refine bO (GH b2 (cH W (hs hi),0) hX) ?_;intro r1 r2 r3;show (∀h,(cT s.1 (cH W (hs hi),0)).2.testBit h=true→I2 h=true)∧xv W (cT s.1 (cH W (hs hi),0)).2.testBit=xv W hi;generalize cT s.1 (cH W (hs hi),0)=e at r1 r2 r3;have D0:∀h,e.2.testBit h=true→I2 h=true:=fun h hh=>by
   cases hc:I2 h with
   | true=>rfl
   | false=>have:=r2.bits h hc;rw [hh] at this;simp at this
  refine⟨D0,?_⟩;have hsum:xv W e.2.testBit^^^e.1=xv W hi:=by
   have:=r2.sum;rw [this];show xv W (0:Nat).testBit^^^cH W (hs hi)=_;rw [mw W (fun i Z=>by simp),zero_xor,iN]
  refine aj (Vd (hs hi) 0 ⟨fun Z=>false,fun j Z h=>(by cases h),mw W fun Z Z=>rfl⟩ s2) ?_;intro p p1 p2
  have p2:xv W p=xv W hi:=by rw [p2];exact iN W hi
  have hq:xv W (px p e.2.testBit)=e.1:=by
   rw [oF,p2,←hsum];have:(xv W e.2.testBit^^^e.1)^^^xv W e.2.testBit=e.1^^^(xv W e.2.testBit^^^xv W e.2.testBit):=by ac_rfl
   rw [this,xor_self,xor_zero]
  have yD:e.1=0:=by
   by_cases h5:qx (px p e.2.testBit)
   ·exfalso;obtain⟨_,t,t1,t2,t3,t4⟩:=b2.top (px p e.2.testBit) (fun j hj eg=>by
     unfold px at eg;cases hc:p j with
     | true=>exact p1 j hj hc
     | false=>rw [hc] at eg;exact D0 j (by simpa using eg)) h5
    rw [hq] at t2 t3;exact Mp t t1 e.1 r1 t2 t3 (r3 t t1 t4)
   ·rw [←hq];exact mw W (F3 h5)
  rw [yD,xor_zero] at hsum;exact hsum
end
section
variable{l:List Nat}{S T:Nat→Nat}
noncomputable def kI(acc:List Nat)(j:Nat):List Nat:=acc++acc.map (· ^^^ 2^j)
noncomputable def sy(l:List Nat):List Nat:=l.foldl kI [0]
section
variable{W:Nat→Nat}
theorem RI:∀(l acc:List Nat) (p:Nat→Bool),(∃m∈acc,∀j<5,j∉l→m.testBit j=p j)→∃m∈l.foldl kI acc,∀j<5,m.testBit j=p j:=by
 intro l
 induction l with
 | nil=>rintro acc p ⟨m,hm,h⟩;exact⟨m,hm,fun j hj=>h j hj (by simp)⟩
 | cons a r rc=>
  rintro acc p ⟨m,hm,h⟩;refine rc (kI acc a) p ?_;have N9:∀j,(m^^^2^a).testBit j=(m.testBit j ^^ decide (a=j)):=fun j=>by rw [Nat.testBit_xor,Nat.testBit_two_pow]
  by_cases hc:m.testBit a=p a
  ·refine⟨m,mem_append.mpr (.inl hm),fun j hj yI=>?_⟩
   by_cases e:j=a
   ·rw [e];exact hc
   ·exact h j hj (by simp [e,yI])
  ·refine⟨m^^^2^a,mem_append.mpr (.inr (mem_map.mpr ⟨m,hm,rfl⟩)),fun j hj yI=>?_⟩;rw [N9]
   by_cases e:j=a
   ·subst e;revert hc;cases m.testBit j<;>cases p j<;>simp
   ·have:decide (a=j)=false:=decide_eq_false fun x=>e x.symm;rw [this,h j hj (by simp [e,yI])];simp
theorem Vu:∀(l acc:List Nat),(∀j∈l,j<5)→l.foldl (fun acc j=>acc++acc.map (· ^^^ W j)) (acc.map fun m=>xv W m.testBit)=(l.foldl kI acc).map fun m=>xv W m.testBit:=by
 intro l
 induction l with
 | nil=>intro acc _;exact rfl
 | cons a r rc=>intro acc h;rw [foldl_cons,foldl_cons,←rc (kI acc a) fun j hj=>h j (mem_cons_of_mem _ hj)];congr 1;unfold kI;rw [map_append,map_map,map_map];congr 1;apply List.map_congr_left;intro m _;show xv W m.testBit^^^W a=xv W (m^^^2^a).testBit;rw [HQ,A5 W a (h a mem_cons_self)]
theorem Hf(h:∀j∈l,j<5):dW W l=(sy l).map fun m=>xv W m.testBit:=by
 have:=Vu (W:=W) l [0] h;rw [show [0].map (fun m=>xv W (Nat.testBit m))=[0] from by simp [mw W (p:=(0:Nat).testBit) (fun i Z=>by simp)]] at this
 exact this
theorem N2:∀(l acc tl:List Nat),acc=0::tl→∃tl',l.foldl kI acc=0::tl':=by
 intro l
 induction l with
 | nil=>intro _ tl h;exact⟨tl,h⟩
 | cons a r rc=>intro acc tl h;exact rc (kI acc a) (tl++acc.map (· ^^^ 2^a)) (by unfold kI;rw [h];rfl)
theorem Pq(hl:∀j∈l,j<5)(hr:c9 W l=false){I:Nat→Bool}(hI:∀j<5,I j=true→j∈l):Indep W I:=by
 intro p hp pJ hx;obtain⟨m,hm,hmp⟩:=RI l [0] p ⟨0,by simp,fun j hj hjl=>by
  rw [Nat.zero_testBit];cases hc:p j with
  | false=>rfl
  | true=>exact absurd (hI j hj (hp j hj hc)) hjl⟩
 refine aA (N2 l [0] [] rfl) ?_;intro tl nC;rw [nC] at hm;have hm0:m∈tl:=by
  rcases mem_cons.mp hm with rfl|h
  ·refine aj pJ ?_;clear pJ;intro h hh kq;have:=hmp h hh;rw [kq] at this;simp at this
  ·exact h
 have OY:xv W m.testBit=0:=by rw [←hx];exact qE hmp
 have hs:=Hf (W:=W) hl;have hz:xv W (0:Nat).testBit=0:=mw W fun i Z=>by simp
 unfold c9 at hr;have he:sy l=0::tl:=nC;rw [hs,he,map_cons,hz,List.count_cons_self] at hr;have hc:0<(tl.map fun m=>xv W m.testBit).count 0:=List.count_pos_iff.mpr (mem_map.mpr ⟨m,hm0,OY⟩);have:=of_decide_eq_false hr;lia
noncomputable def FA(p:Nat→Bool):Bool:=((sy (hs p)).head?==some 0)&&(sy (hs p)).tail.all fun m=>(List.range 5).any (fun h=>m.testBit h)&&(List.range 5).all fun h=>!m.testBit h||p h
theorem RG:allB FA=true:=by decide+kernel
theorem NX{a:Nat}(h:l.head?=some a):l=a::l.tail:=by
 cases l with
 | nil=>exact nn h
 | cons b l=>rw [Option.some.inj h];rfl
theorem RH(p:Nat→Bool):∃tl,sy (hs p)=0::tl∧∀m∈tl,qx m.testBit∧iW p m.testBit:=by
 have h:=allB_iff RG (p 0) (p 1) (p 2) (p 3) (p 4);unfold FA at h;rw [←uM] at h;refine au (and_eq_true_iff.mp h) ?_;clear h;intro h1 h
 ·refine⟨_,NX (eq_of_beq h1),fun m hm=>?_⟩;rw [all_eq_true] at h;have:=h m hm;rw [and_eq_true,any_eq_true,all_eq_true] at this;refine au this ?_;clear this;intro hh;refine aj hh ?_;clear hh;intro j hj hb;intro h2;refine⟨⟨j,mem_range.mp hj,hb⟩,fun i hi hmi=>?_⟩;have:=h2 i (mem_range.mpr hi);rw [hmi,←tL p i hi] at this;simpa using this
theorem GN{p:Nat→Bool}(h:Indep W p):c9 W (hs p)=false:=by
 refine aj (RH p) ?_;intro tl nC hm;have hz:xv W (0:Nat).testBit=0:=mw W fun i Z=>by simp
 unfold c9;rw [Hf fun j hj=>jf hj,nC,map_cons,hz,List.count_cons_self];have hc:(tl.map fun m=>xv W m.testBit).count 0=0:=by
  rw [List.count_eq_zero];intro hmem;refine aj (mem_map.mp hmem) ?_;intro m hmt hx;refine au (hm m hmt) ?_;intro h5 hw;exact h m.testBit hw h5 hx
 rw [hc];rfl
theorem uc(S:Nat→Nat):cC S W=true↔∀a∈[1,2,4],xv W (lvl S a)=0:=by
 unfold cC;rw [iN,iN,iN];simp
theorem LU(h:∀i<5,S i=T i):cC S W=cC T W:=by
 have:∀a,xv W (lvl S a)=xv W (lvl T a):=fun a=>qE fun i hi=>by unfold lvl;rw [h i hi]
 unfold cC;rw [iN,iN,iN,iN,iN,iN,this,this,this]
theorem HA(h:∀i<5,T i≤S i){j:Nat}(hj:j<5)(hlt:T j<S j):tot T<tot S:=by
 have e:∀S:Nat→Nat,tot S=S 0+(S 1+(S 2+(S 3+(S 4+0)))):=fun Z=>rfl;rw [e,e];have h0:=h 0 (by decide)
 have h1:=h 1 (by decide)
 have h2:=h 2 (by decide)
 have h3:=h 3 (by decide)
 have h4:=h 4 (by decide)
 have key:∀j<5,T j<S j→T 0+(T 1+(T 2+(T 3+(T 4+0))))<S 0+(S 1+(S 2+(S 3+(S 4+0)))):=by
  refine b8 (fun x=>Nat.add_lt_add_of_lt_of_le x (add_le_add h1 (add_le_add h2 (add_le_add h3 (add_le_add h4 (le_refl _)))))) (fun x=>add_lt_add_of_le_of_lt h0 (Nat.add_lt_add_of_lt_of_le x (add_le_add h2 (add_le_add h3 (add_le_add h4 (le_refl _)))))) (fun x=>add_lt_add_of_le_of_lt h0 (add_lt_add_of_le_of_lt h1 (Nat.add_lt_add_of_lt_of_le x (add_le_add h3 (add_le_add h4 (le_refl _)))))) (fun x=>add_lt_add_of_le_of_lt h0 (add_lt_add_of_le_of_lt h1 (add_lt_add_of_le_of_lt h2 (Nat.add_lt_add_of_lt_of_le x (add_le_add h4 (le_refl _)))))) fun x=>add_lt_add_of_le_of_lt h0 (add_lt_add_of_le_of_lt h1 (add_lt_add_of_le_of_lt h2 (add_lt_add_of_le_of_lt h3 (Nat.add_lt_add_of_lt_of_le x (le_refl _)))))
 exact key j hj hlt
noncomputable def jr(s l L:Nat)(m:Bool):Nat:=if m then (if (!decide (l<s)&&(s&&& L != 0)) then s/L/2*2*L else l+L) else l
noncomputable def Ac(s l L:Nat):Bool:=(decide (l<s)||l==s)&&(!decide (l<s)||(decide (l/(2*L)<s/(2*L))&&l%(2*L)==0))
noncomputable def Ab(s l L:Nat)(m:Bool):Bool:=
 let n:=jr s l L m
 let hi:=!decide (l<s)&&(s&&& L != 0)
 (decide (n<s)==(decide (l<s)||(m&&hi)))&&(decide (n<s)||n==s)&&(!decide (n<s)||(decide (n/L<s/L)&&n%L==0))&&((n&&& L != 0)==(hi ^^ m))&&[4,2,1].all fun M=>!decide (L<M)||((n&&& M != 0)==(l&&& M != 0))
noncomputable def tR(L s l:Nat)(m:Bool):Bool:=!(Ac s l L&&(!m||(decide (l<s)||(s&&& L != 0))))||Ab s l L m
theorem K0:∀L∈[4,2,1],∀s<6,∀l<6,tR L s l true=true∧tR L s l false=true:=by decide+kernel
end
end
section
variable{W:Nat→Nat}
structure s6(W S:Nat→Nat)(L:Nat)(left:Nat→Nat)(pk:Nat→Bool):Prop where
 vG:∀h<5,pk h=decide (left h<S h)
 pre:∀h<5,(left h<S h∨left h=S h)∧(left h<S h→left h/L<S h/L∧left h%L=0)
 ind:Indep W pk
 even:∀M∈[4,2,1],L≤M→xv W (lvl left M)=0
 low:∀h,pk h=true→h<5
theorem Pp{p q:Nat→Bool}(h:Indep W q)(hpq:∀j<5,p j=true→q j=true):Indep W p:=fun r hr h5=>h r (fun j hj OG=>hpq j hj (hr j hj OG)) h5
theorem w7(hW:∀i<5,W i<16){S left:Nat→Nat}(hS:∀i<5,S i≤5){pk:Nat→Bool}{L:Nat}(hL:L∈[4,2,1])(h:s6 W S (2*L) left pk)(hlow:∀h,5≤h→S h=left h):s6 W S L (fh S W (left,pk) L).1 (fh S W (left,pk) L).2∧∀h,5≤h→S h=(fh S W (left,pk) L).1 h:=by
 have NZ:∀j,pk j=true→aP S pk L j=false:=fun j hj=>by unfold aP;rw [hj];rfl
 refine qW (Ru hW (hi:=aP S pk L) h.ind NZ) ?_;intro I i1 i2 i3 i4 i5;have hM:∀j<5,j∈Mn W pk (aP S pk L)↔(gk W (hs pk++hs (aP S pk L)) (hs (aP S pk L))).2.2.testBit j=true:=fun j hj=>by
  unfold Mn;rw [mem_filter];refine⟨fun x=>x.2,fun x=>⟨?_,x⟩⟩;rw [mem_append,jN,jN];rcases (i3 j (i4 j x)).2 with y|y
  ·exact .inl ⟨hj,y⟩
  ·exact .inr ⟨hj,y⟩
 have DS:∀j,j∈Mn W pk (aP S pk L)→j<5:=fun j hj=>FJ hj;show s6 W S L (gi S left L (Mn W pk (aP S pk L)) (aP S pk L)) (c8 S (gi S left L (Mn W pk (aP S pk L)) (aP S pk L)))∧_;generalize (gk W (hs pk++hs (aP S pk L)) (hs (aP S pk L))).2.2=mm at i4 i5 hM;have hnew:∀j<5,gi S left L (Mn W pk (aP S pk L)) (aP S pk L) j=jr (S j) (left j) L (mm.testBit j):=fun j hj=>by
  unfold gi jr kJ;have hhi:aP S pk L j=(!decide (left j<S j)&&(S j&&& L != 0)):=by unfold aP lvl;rw [h.vG j hj]
  cases hb:mm.testBit j with
  | true=>rw [if_pos ((hM j hj).mpr hb),if_pos rfl,hhi]
  | false=>rw [if_neg (fun x=>by rw [(hM j hj).mp x] at hb;cases hb),if_neg (by decide)]
 have hpost:∀j<5,Ab (S j) (left j) L (mm.testBit j)=true:=fun j hj=>by
  have yY:=hS j hj;refine au (h.pre j hj) ?_;intro p1 p2;have hpre:Ac (S j) (left j) L=true:=by
   unfold Ac;rw [and_eq_true,or_eq_true,or_eq_true,and_eq_true];simp only [decide_eq_true_eq,beq_iff_eq,not_eq_true',decide_eq_false_iff_not];refine⟨p1,?_⟩
   by_cases hc:left j<S j
   ·exact .inr (p2 hc)
   ·exact .inl hc
  have yO:(!mm.testBit j||(decide (left j<S j)||(S j&&& L != 0)))=true:=by
   cases hb:mm.testBit j with
   | false=>rfl
   | true=>
    rcases (i3 j (i4 j hb)).2 with y|y
    ·rw [h.vG j hj] at y;rw [y];rfl
    ·unfold aP lvl at y;rw [and_eq_true] at y;rw [y.2];simp
  have hle:left j<6:=by lia
  have hcc:=K0 L hL (S j) (by lia) (left j) hle
  have hchk:tR L (S j) (left j) (mm.testBit j)=true:=by
   cases mm.testBit j
   ·exact hcc.2
   ·exact hcc.1
  unfold tR at hchk;rw [hpre,yO] at hchk;simpa using hchk
 have hp:∀j<5,(decide (jr (S j) (left j) L (mm.testBit j)<S j)=(decide (left j<S j)||(mm.testBit j&&(!decide (left j<S j)&&(S j&&& L != 0)))))∧(jr (S j) (left j) L (mm.testBit j)<S j∨jr (S j) (left j) L (mm.testBit j)=S j)∧(jr (S j) (left j) L (mm.testBit j)<S j→jr (S j) (left j) L (mm.testBit j)/L<S j/L∧jr (S j) (left j) L (mm.testBit j)%L=0)∧((jr (S j) (left j) L (mm.testBit j)&&& L != 0)=((!decide (left j<S j)&&(S j&&& L != 0)) ^^ mm.testBit j))∧∀M∈[4,2,1],L<M→(jr (S j) (left j) L (mm.testBit j)&&& M != 0)=(left j&&& M != 0):=fun j hj=>by
  have:=hpost j hj;unfold Ab at this;simp only [and_eq_true,beq_iff_eq,or_eq_true,decide_eq_true_eq,not_eq_true',decide_eq_false_iff_not,all_eq_true] at this;refine au this ?_;clear this;intro hh;refine au hh ?_;clear hh;intro hh;refine au hh ?_;clear hh;intro hh;refine au hh ?_;clear hh;intro q1 q2;intro q3;intro q4;intro q5;refine⟨q1,q2,fun hlt=>?_,q4,fun M hM DO=>?_⟩
  ·rcases q3 with q3|q3
   ·exact absurd hlt q3
   ·exact q3
  ·rcases q5 M hM with q5|q5
   ·exact absurd DO q5
   ·exact q5
 refine⟨⟨fun j Z=>rfl,fun j hj=>?_,?_,fun M hM' DO=>?_,fun j hj=>?_⟩,fun j hj=>?_⟩
 ·rw [hnew j hj];exact⟨(hp j hj).2.1,(hp j hj).2.2.1⟩
 ·refine Pp i1 fun j hj eg=>?_;unfold c8 at eg;rw [hnew j hj,(hp j hj).1,or_eq_true,and_eq_true] at eg;rcases eg with x|x
  ·rw [←h.vG j hj] at x;exact i2 j hj x
  ·exact i4 j x.1
 ·by_cases e:M=L
  ·subst e;have:xv W (lvl (gi S left M (Mn W pk (aP S pk M)) (aP S pk M)) M)=xv W (px (aP S pk M) mm.testBit):=qE fun j hj=>by
    show (gi S left M (Mn W pk (aP S pk M)) (aP S pk M) j&&& M != 0)=(aP S pk M j ^^ mm.testBit j);rw [hnew j hj,(hp j hj).2.2.2.1];unfold aP lvl;rw [h.vG j hj]
   rw [this,oF,i5,xor_self]
  ·have hlt:L<M:=by lia
   have:xv W (lvl (gi S left L (Mn W pk (aP S pk L)) (aP S pk L)) M)=xv W (lvl left M):=qE fun j hj=>by
    show (gi S left L (Mn W pk (aP S pk L)) (aP S pk L) j&&& M != 0)=(left j&&& M != 0);rw [hnew j hj,(hp j hj).2.2.2.2 M hM' hlt]
   rw [this];refine h.even M hM' ?_;simp only [mem_cons,not_mem_nil,or_false] at hL hM';lia
 ·unfold c8 at hj;rw [decide_eq_true_eq] at hj
  by_cases h5:j<5
  ·exact h5
  ·exfalso;have:gi S left L (Mn W pk (aP S pk L)) (aP S pk L) j=left j:=by
    unfold gi;rw [if_neg fun x=>h5 (DS j x)]
   rw [this,←hlow j (by lia)] at hj
   lia
 ·unfold fh;show S j=gi S left L (Mn W pk (aP S pk L)) (aP S pk L) j;unfold gi;rw [if_neg fun x=>by have:=DS j x;lia]
  exact hlow j hj
theorem IK(hW:∀i<5,W i<16){S:Nat→Nat}(hS:∀i<5,S i≤5):(∀i<5,iY S W i≤S i)∧c9 W (hs (c8 S (iY S W)))=false∧cC (iY S W) W=true:=by
 have a0:s6 W S (2*4) S (fun Z=>false):=by
  refine⟨fun h Z=>by simp,fun h hh=>⟨.inr rfl,fun x=>absurd x (lt_irrefl _)⟩,?_,?_,?_⟩
  ·intro p hp h5;refine aj h5 ?_;clear h5;intro j hj eg;have h2:=hp j hj eg;cases h2
  ·intro M hM h8;simp only [mem_cons,not_mem_nil,or_false] at hM;lia
  ·intro h hh;cases hh
 refine au (w7 hW hS (L:=4) (by decide) a0 (fun Z Z=>rfl)) ?_;intro a1 l1
 refine au (w7 hW hS (L:=2) (by decide) a1 l1) ?_;intro a2 l2
 refine au (w7 hW hS (L:=1) (by decide) a2 l2) ?_;intro a3 l3
 have e:iY S W=(fh S W (fh S W (fh S W (S,fun Z=>false) 4) 2) 1).1:=rfl;have e2:c8 S (iY S W)=(fh S W (fh S W (fh S W (S,fun Z=>false) 4) 2) 1).2:=rfl;refine⟨fun i hi=>?_,?_,?_⟩
 ·rw [e];rcases (a3.pre i hi).1 with x|x
  ·exact le_of_lt x
  ·exact le_of_eq x
 ·rw [e2];exact GN a3.ind
 ·rw [uc,e];intro a ha;refine a3.even a ?_ ?_
  ·simp only [mem_cons,not_mem_nil,or_false] at ha ⊢;lia
  ·simp only [mem_cons,not_mem_nil,or_false] at ha;lia
end
section
variable{S:Nat→Nat}{d:Int}
section
variable{W:Nat→Nat}
structure qH(W S:Nat→Nat)(s:List Nat×(Nat→Nat)):Prop where
 lt:∀x∈s.1,x<5
 ring:c9 W s.1=false
 val:∀h,(h∈s.1→s.2 h<S h)∧(h∉s.1→s.2 h=S h)
theorem UH:c9 W []=false:=by
 unfold c9 dW;rfl
theorem UI{h:Nat}(hW:W h≠0):c9 W [h]=false:=by
 unfold c9 dW;show decide (1<([0]++[0^^^W h]).count 0)=false;rw [zero_xor];have:([0]++[W h]).count 0=1:=by
  rw [List.count_append];have h1:([W h]).count 0=0:=by
   rw [List.count_eq_zero];intro hm;rw [mem_singleton] at hm;exact hW hm.symm
  rw [h1];rfl
 rw [this];rfl
theorem To{s:List Nat×(Nat→Nat)}(h:qH W S s)(j:Nat):qH W S (cK S W d s j):=by
 unfold cK;cases hc:okN S W d s.1 j with
 | false=>rw [if_neg (by decide)];exact h
 | true=>
  rw [if_pos rfl];unfold okN at hc;simp only [and_eq_true,decide_eq_true_eq,not_eq_true'] at hc;refine bO hc ?_;clear hc;intro c1 c2 c3;have hy:=uC S d j;generalize hN S d j=y at c1 c3 hy;refine⟨?_,c3,fun x=>?_⟩
  ·intro x hx;rcases mem_append.mp hx with hx|hx
   ·exact h.lt x hx
   ·rw [mem_singleton] at hx;rw [hx];exact hy
  ·by_cases e:x=y
   ·subst e;have e1:(if x=x then gB d (S x) else s.2 x)=gB d (S x):=if_pos rfl
    have hm:x∈s.1++[x]:=by simp
    refine⟨fun Z=>?_,fun hx=>absurd hm hx⟩;show (if x=x then gB d (S x) else s.2 x)<S x
    rw [e1];exact Sq d c1
   ·have e1:(if x=y then gB d (S y) else s.2 x)=s.2 x:=if_neg e
    show (x∈s.1++[y]→(if x=y then gB d (S y) else s.2 x)<S x)∧(x∉s.1++[y]→(if x=y then gB d (S y) else s.2 x)=S x)
    rw [e1];have hm:x∈s.1++[y]↔x∈s.1:=by simp [e]
    rw [hm];exact h.val x
theorem Tj:∀(l:List Nat) (s:List Nat×(Nat→Nat)),qH W S s→qH W S (l.foldl (cK S W d) s):=by
 intro l
 induction l with
 | nil=>intro s h;exact h
 | cons j l rc=>intro s h;exact rc _ (To h j)
theorem Tn:∀(l:List Nat) (s:List Nat×(Nat→Nat)),s.1≠[]→(l.foldl (cK S W d) s).1≠[]:=by
 intro l
 induction l with
 | nil=>intro s h;exact h
 | cons j l rc=>
  intro s h;refine rc _ ?_;unfold cK
  split
  ·simp
  ·exact h
theorem Tp(hW:∀h<5,W h≠0):∀(l:List Nat) (s:List Nat×(Nat→Nat)),(∃j∈l,0<S (hN S d j))→(l.foldl (cK S W d) s).1≠[]:=by
 intro l
 induction l with
 | nil=>rintro s ⟨j,hj,_⟩;cases hj
 | cons i l rc=>
  rintro s ⟨j,hj,hs⟩;rw [foldl_cons]
  by_cases hn:(cK S W d s i).1=[]
  ·refine rc _ ?_;rcases mem_cons.mp hj with rfl|hj
   ·exfalso;unfold cK at hn;cases hc:okN S W d s.1 j with
    | true=>rw [hc,if_pos rfl] at hn;simp at hn
    | false=>
     rw [hc,if_neg (by decide)] at hn
     unfold okN at hc;rw [hn] at hc;have hr:c9 W ([]++[hN S d j])=false:=UI (hW _ (uC S d j));rw [hr,decide_eq_true hs] at hc;cases hc
   ·exact⟨j,hj,hs⟩
  ·exact Tn l _ hn
theorem visit(d:Int):∀i<5,∃j,j<5∧pQ d j=i:=by
 intro i hi;have h1:0≤((i:Int) - d)%5:=Int.emod_nonneg _ (by decide)
 have h2:((i:Int) - d)%5<5:=Int.emod_lt_of_pos _ (by decide)
 refine⟨(((i:Int) - d)%5).toNat,(toNat_lt h1).mpr h2,?_⟩;unfold pQ;rw [Int.fmod_eq_emod_of_nonneg _ (by decide),toNat_of_nonneg h1,Int.add_emod_emod,Int.add_comm,Int.sub_add_cancel]
 exact congrArg Int.toNat (Int.emod_eq_of_lt (natCast_nonneg _) (ofNat_lt.mpr hi))
theorem J9:∀s<6,∀l<6,l<s→([4,2,1].any fun M=>(l&&& M != 0) != (s&&& M != 0))=true:=by decide+kernel
theorem Ti(hW:∀h<5,W h≠0)(hS:∀i<5,S i≤5)(he:cC S W=true)(ht:0<tot S)(d:Int) :
 (∀i<5,l6 S W d i≤S i)∧c9 W (hs (c8 S (l6 S W d)))=false∧cC (l6 S W d) W=false∧∃j,j<5∧l6 S W d j<S j:=by
 have h0:qH W S ([],S):=⟨fun x hx=>(by cases hx),UH,fun h=>⟨fun hx=>(by cases hx),fun Z=>rfl⟩⟩
 have hI:=Tj (d:=d) (List.range 5) ([],S) h0;obtain⟨j0,hj0,hs0⟩:∃j,j<5∧0<S j:=by
  refine byContradiction fun hn=>?_;have hz:∀j<5,S j=0:=fun j hj=>by
   by_cases h:0<S j
   ·exact absurd ⟨j,hj,h⟩ hn
   ·lia
  have e:tot S=S 0+(S 1+(S 2+(S 3+(S 4+0)))):=rfl;rw [e,hz 0 (by decide),hz 1 (by decide),hz 2 (by decide),hz 3 (by decide),hz 4 (by decide)] at ht
  lia
 have hne:((List.range 5).foldl (cK S W d) ([],S)).1≠[]:=by
  refine Tp hW _ _ ?_;refine bO (vt S) ?_;intro o1 o2 o3;refine aA (mem_iff_getElem?.mp (o3 j0 hj0)) ?_;intro i hi;have Ea:i<5:=by have:=(List.getElem?_eq_some_iff.mp hi).1;lia
  refine aj (visit d i Ea) ?_;intro j hj hx;refine⟨j,mem_range.mpr hj,?_⟩;have:hN S d j=j0:=by
   unfold hN;rw [hx,getD_eq_getElem?_getD,hi];rfl
  rw [this];exact hs0
 have eT:l6 S W d=((List.range 5).foldl (cK S W d) ([],S)).2:=rfl;rw [eT];generalize (List.range 5).foldl (cK S W d) ([],S)=s at hI hne;have hind:∀I:Nat→Bool,(∀j<5,I j=true→j∈s.1)→Indep W I:=fun I hI'=>Pq hI.lt hI.ring hI';refine aA (List.exists_mem_of_ne_nil _ hne) ?_;intro x hx;have zc:=hI.lt x hx;have nF:=(hI.val x).1 hx;have hle:∀i<5,s.2 i≤S i:=fun i Z=>by
  by_cases hm:i∈s.1
  ·exact le_of_lt ((hI.val i).1 hm)
  ·exact le_of_eq ((hI.val i).2 hm)
 have D4:∀i,s.2 i≠S i→i∈s.1:=fun i hne=>by
  by_cases hm:i∈s.1
  ·exact hm
  ·exact absurd ((hI.val i).2 hm) hne
 refine⟨hle,GN (hind _ fun j hj hp=>?_),?_,x,zc,nF⟩
 ·unfold c8 at hp;rw [decide_eq_true_eq] at hp;exact D4 j (by lia)
 ·cases hT:cC s.2 W with
  | false=>rfl
  | true=>
   exfalso;have WV:=hS x zc;have hb:=J9 (S x) (by lia) (s.2 x) (by lia) nF
   rw [any_eq_true] at hb;refine aj hb ?_;clear hb;intro M hM NY;have hM':M∈[1,2,4]:=by
    simp only [mem_cons,not_mem_nil,or_false] at hM ⊢;lia
   have e1:=(uc S).mp he M hM';have e2:=(uc s.2).mp hT M hM';refine hind (px (lvl s.2 M) (lvl S M)) (fun j hj hp=>?_) (px (lvl s.2 M) (lvl S M)) (fun Z Z h=>h) ⟨x,zc,?_⟩ ?_
   ·refine D4 j fun hh=>?_;unfold px lvl at hp;rw [hh] at hp;simp at hp
   ·show (lvl s.2 M x ^^ lvl S M x)=true;unfold lvl;revert NY;cases (s.2 x&&& M != 0)<;>cases (S x&&& M != 0)<;>simp
   ·rw [oF,e1,e2];rfl
theorem Ws:∀a<5,∀b<5,a≠b→(2^a||| 2^b)%16≠0:=by decide+kernel
theorem Wy(a b:Nat)(h:b<4):a%5≠(a+1+b)%5:=by lia
theorem Wr(N:Nat→Nat)(i:Nat):cU N i≠0:=by
 unfold cU;exact Ws _ (mod_lt _ (by decide)) _ (mod_lt _ (by decide)) (Wy _ _ (mod_lt _ (by decide)))
theorem Wq(N:Nat→Nat)(i:Nat):cU N i<16:=by
 unfold cU;exact mod_lt _ (by decide)
theorem Nc(hW:∀i<5,W i<16)(NH:∀i<5,W i≠0):Good W where
 move:=fun S o d hS ho hl=>by
  cases o with
  | true=>
   have hu:cC S W=false:=by
    revert ho;cases cC S W<;>simp
   refine bO (IK hW hS) ?_;intro h1 h2 h3;have e:nQ true S W d=iY S W:=rfl;rw [e];refine⟨h1,h2,h3,?_⟩;refine byContradiction fun hn=>?_;have heq:∀i<5,iY S W i=S i:=fun i hi=>by
    by_cases h:iY S W i<S i
    ·exact absurd (HA h1 hi h) hn
    ·have:=h1 i hi;lia
   rw [LU heq,hu] at h3;cases h3
  | false=>
   have hu:cC S W=true:=by
    revert ho;cases cC S W<;>simp
   have ht:0<tot S:=by simpa using hl
   obtain⟨h1,h2,h3,j,hj,hlt⟩:=Ti NH hS hu ht d;exact⟨h1,h2,h3,HA h1 hj hlt⟩
 zero:=fun S h=>by
  rw [uc];intro a _;refine mw W fun i hi=>?_;unfold lvl;rw [HB h i hi];simp
theorem TP:∀ns:List Int,ns.length≤63→wJ 10 ns:=TQ fun N=>Nc (fun i Z=>Wq N i) (fun i Z=>Wr N i)
end
end
end Mine
end
open PySem PySem.W PyProof.Rows PySem.W.X PySem.W.ZRun
set_option tactic.hygienic true in
set_option maxRecDepth 100000 in
set_option maxHeartbeats 0 in
theorem PySem.Challenge.cw_wa0020_01_holds : PySem.Challenge.rw_wa0020_01.Holds := by
  w_on
  refine holds_law Mine.row_said fun said => ?_
  refine holds_openX (q := Mine.view) (loose := Mine.u7) (Xt := Mine.AI) (XP := XL Mine.view []) (Yf := obsZ Mine.uD) (Ya := valZ Mine.pG 212 476) (N := 2590) Mine.left (fun s e => xl_of s (Bool.and_eq_true_iff.mp e).1) XL.keeps (by rfl) (by rfl) (by rfl) (fun s e => recFacts_of (Bool.and_eq_true_iff.mp e).2) (by rfl) (by assumption) (by decide +kernel) ⟨rfl, rfl, rfl, rfl, rfl, by decide +kernel⟩ ?hw ?hc
  case hw => w_witness2
  intro w s₀ s₁ mg mb G y fa o pm cd doc dV kV ho hd hcd hD hmg hg args vals as L hpre hlay hrd hwl hlo
  obtain ⟨_, ZI, ZN, _⟩ := z_facts (K := Mine.pG) (as := Mine.uD) (fun _ => by kernel_rfl!) y
  have KX : (Mine.pG w.params).In s₁.heap := InK.keeps w _ _ ZI L.keeps
  have kf := Mine.N3 w.params
  refine Ground.open G ?_
  intro T B D TE TW
  wrow_args hpre hlay hrd hwl hlo
  obtain ⟨hat, hsz⟩ := script_at L
  rw [ZN] at hat hsz
  subst hat
  obtain rfl := Mine.QH KX kf T.g hmg
  refine Mine.QK KX kf hg hsz T.nolimit (script_obj L (by assumption)) (by assumption) (Mine.TP _ (Mine.QT (by assumption))) fun s' h1 h2 h3 => ⟨.inl ⟨_, _, [], rfl, fun _ => rfl, .bool true, ?post, fun _ => ⟨List.nodup_nil, fun a ha => by cases ha⟩⟩, h1, h2, h3⟩
  case post => first | rfl | kernel_rfl!
